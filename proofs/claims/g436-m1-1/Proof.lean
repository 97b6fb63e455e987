import JvmDerived
import JvmDerived.Pilot.@@N@@Statement
import JvmDerived.Pilot.@@N@@Code
@@BLOCK:NumsL.lean.txt@@
set_option linter.unusedVariables false
set_option linter.unusedSimpArgs false
namespace Jvm.RoadKit
open Sem ClassFile Op Lib Jvm.Stand Jvm.Free Jvm.LawKit
section New
variable {p : Program} {l : Launch} {e : Env} {R : Room} {s : State} {m : MethodId} {args : Array Value} {below : List Frame} {meth : Method} {c : Code} {T : State} {locs : List Loc} {cells slots : Nat}
theorem retI (X : Stand p l e R s m args below meth c T locs cells slots) (hx : p.tables.exec = Jvm.exec) {pc : Nat} {Ls : Array Slot} {z : Int32} {rest : List Value} (hret : meth.sig.returnType = some .int) (hd : decode c.code pc = .ok (.ireturn, 1)) {fs : List Frame}
    (hl : ∀ (f : JFrame) (acts : List Action), f.method = m → f.locked = none → f.entered = [] → (doReturn e (T.setTop f) acts (some (.int z))).1 = T.setFrames fs) : Steps p.tables e below (T.setTop (mkF m pc Ls (.int z :: rest))) (T.setFrames fs) := by
  have hm' : T.vm.method? m = some meth := X.method'
  have hn : narrow .int (.int z) = .int z := rfl
  show Steps p.tables e below (T.setTop { method := m, pc := pc, locals := Ls, stack := _ :: rest, locked := none }) _
  jvm_step X.here [X.here.top, hx, hd, hm', hret, hn]
  first | (intro acts; rw [hl _ acts rfl rfl rfl]) | rw [hl _ _ rfl rfl rfl]
  exact Steps.refl _
theorem own_retD (X : Stand p l e R s m args below meth c T locs cells slots) (hx : p.tables.exec = Jvm.exec) {pc : Nat} {Ls : Array Slot} {z : UInt64} {rest : List Value} (hret : meth.sig.returnType = some .double) (hd : decode c.code pc = .ok (.dreturn, 1)) {fs : List Frame}
    (hl : ∀ (f : JFrame) (acts : List Action), f.method = m → f.locked = none → f.entered = [] → (doReturn e (T.setTop f) acts (some (.double z))).1 = T.setFrames fs) : Steps p.tables e below (T.setTop (mkF m pc Ls (.double z :: rest))) (T.setFrames fs) := by
  have hm' : T.vm.method? m = some meth := X.method'
  have hn : narrow .double (.double z) = .double z := rfl
  show Steps p.tables e below (T.setTop { method := m, pc := pc, locals := Ls, stack := _ :: rest, locked := none }) _
  jvm_step X.here [X.here.top, hx, hd, hm', hret, hn]
  first | (intro acts; rw [hl _ acts rfl rfl rfl]) | rw [hl _ _ rfl rfl rfl]
  exact Steps.refl _
theorem own_mvM {Z s : State} {a0 args : Array Value} {own host : String} {y : MethodName} {index : Nat} (hZ : Z.Warmed39 s.vm) (w : (Cond.methodLinkNest own index y host).before a0 Z = true) : (Cond.methodLinkNest own index y host).before args s = true := (Cond.methodLinkNest_wide hZ w :)
theorem own_selP {Z s : State} {a0 args : Array Value} {y : MethodName} {n : Nat} (hZ : Z.Warmed39 s.vm) (wi : (Cond.instantiable y.cls n).before a0 Z = true) (wp : (Cond.privateMethod y).before a0 Z = true) (wm : (Cond.instanceMethod y).before a0 Z = true) (hy : y.cls ≠ "java/lang/invoke/MethodHandle" ∧ y.cls ≠ "java/lang/invoke/VarHandle") : (Cond.selects y.cls y y).before args s = true := by
  obtain ⟨c, k, hc, hk, -, hflags, -⟩ := Cond.instantiable_spec (mvT (args := args) hZ wi)
  have hitf : k.isInterface = false := by
    cases hi : k.isInterface
    · rfl
    · simp [hi] at hflags
  exact selects_self_of_private hc hk hitf (Cond.privateMethod_at (mvP hZ wp (args := args))) (mvT hZ wm) hy
end New
end Jvm.RoadKit
namespace Jvm.Pilot.@@N@@
open Jvm Jvm.ClassFile Sem Op Lib Jvm.Free Jvm.Stand Jvm.LawKit Jvm.RoadKit Bundle Jvm.Free.Fl Jvm.Pilot.@@N@@.Jvm.D
theorem own_W {a0 : Array Value} {Z : State} (hw : ∀ d ∈ tables_1, d.before a0 Z = true) (i : Nat) {d : Jvm.Cond} (h : tables_1[i]? = some d) : d.before a0 Z = true := hw _ (List.mem_of_getElem? h)
/-! my own laws on doubles: a result is a rounding of its exact value (monotone), exactness, the order -/
section OwnFloat
open Jvm.FP Jvm.FP.Core
/-- the value in units of 2^-1074 -/
def own_zv (a : UInt64) : Int := Core.zval Core.b64 (Core.val64 a)
abbrev own_U : Int := (Core.one64 : Int)
theorem own_U_pos : 0 < own_U := Int.natCast_pos.mpr Core.one64_pos
/-- r is N / D, rounded, as far as the order goes -/
def own_rnd (N D : Int) (r : UInt64) : Prop :=
  Core.val64 r ≠ .nan ∧ (∀ V, Core.val64 V ≠ .nan → own_zv V * D ≤ N → own_zv V ≤ own_zv r) ∧ (∀ V, Core.val64 V ≠ .nan → N ≤ own_zv V * D → own_zv r ≤ own_zv V)
theorem own_fin_ne {a : UInt64} (h : Core.DFin a) : Core.val64 a ≠ .nan := h.ne_nan
theorem own_pow0 : (2 : Nat) ^ (Core.b64.qmin - Core.b64.qmin).toNat = 1 := by rw [Int.sub_self]; rfl
theorem own_rnd_of_round {x : UInt64} {sg : Bool} {n : Nat} {e e0 : Int} (hx : Core.val64 x = Core.round Core.b64 (.fin sg n e)) (h0 : e0 ≤ Core.b64.qmin) (h0e : e0 ≤ e) :
    own_rnd (Core.signed sg (Core.inUnits n e e0)) (((2 ^ (Core.b64.qmin - e0).toNat : Nat) : Int)) x := by
  refine ⟨?_, fun V hV h => ?_, fun V hV h => ?_⟩
  · rw [hx]; intro q; have := Core.round_nan.mp q; cases this
  · have := Core.zval_round_ge Core.good_b64 (s := sg) (c := n) (q := e) (e0 := e0) (V := Core.val64 V) (Core.val64_fits V) hV h0 h0e h
    unfold own_zv; rw [hx]; exact this
  · have := Core.zval_round_le Core.good_b64 (s := sg) (c := n) (q := e) (e0 := e0) (V := Core.val64 V) (Core.val64_fits V) hV h0 h0e h
    unfold own_zv; rw [hx]; exact this
theorem own_dadd_rnd {a b : UInt64} (ha : Core.DFin a) (hb : Core.DFin b) : own_rnd (own_zv a + own_zv b) 1 (FP.dadd a b) := by
  obtain ⟨s, c, q, ea⟩ := ha
  obtain ⟨t, d, r, eb⟩ := hb
  have fa := Core.val64_fits a; have fb := Core.val64_fits b
  rw [ea] at fa; rw [eb] at fb
  obtain ⟨sg, n, e, h1, h2, h3⟩ := Core.sum_units fa fb
  have hv : Core.val64 (FP.dadd a b) = Core.round Core.b64 (.fin sg n e) := by
    show Core.val64 (Core.dadd a b) = _
    rw [Core.val64_dadd, ea, eb, h1]
  have := own_rnd_of_round hv (Int.le_refl _) h2
  rw [h3, own_pow0] at this
  unfold own_zv; rw [ea, eb]; exact this
theorem own_zv_dneg (a : UInt64) : own_zv (Core.dneg a) = -own_zv a := by
  unfold own_zv; rw [Core.val64_dneg, Core.zval_negate]
theorem own_fin_dneg {a : UInt64} (ha : Core.DFin a) : Core.DFin (Core.dneg a) := by
  obtain ⟨s, c, q, ea⟩ := ha
  exact ⟨!s, c, q, by rw [Core.val64_dneg, ea]; rfl⟩
theorem own_dneg_zv {a : UInt64} (ha : Core.DFin a) : Core.DFin (FP.dneg a) ∧ own_zv (FP.dneg a) = -own_zv a := by
  rw [FP.dneg_core ha.notNaN]; exact ⟨own_fin_dneg ha, own_zv_dneg a⟩
theorem own_dsub_rnd {a b : UInt64} (ha : Core.DFin a) (hb : Core.DFin b) : own_rnd (own_zv a - own_zv b) 1 (FP.dsub a b) := by
  have h := own_dadd_rnd ha (own_fin_dneg hb)
  rw [own_zv_dneg] at h
  have e : FP.dsub a b = FP.dadd a (Core.dneg b) := Core.dsub_eq a b
  rw [e, Int.sub_eq_add_neg]; exact h
theorem own_dmul_rnd {a b : UInt64} (ha : Core.DFin a) (hb : Core.DFin b) : own_rnd (own_zv a * own_zv b) own_U (FP.dmul a b) := by
  obtain ⟨s, c, q, ea⟩ := ha
  obtain ⟨t, d, r, eb⟩ := hb
  have fa := Core.val64_fits a; have fb := Core.val64_fits b
  rw [ea] at fa; rw [eb] at fb
  obtain ⟨h1, h2, h3⟩ := Core.product_units fa fb
  have hv : Core.val64 (FP.dmul a b) = Core.round Core.b64 (.fin (s != t) (c * d) (q + r)) := by
    show Core.val64 (Core.dmul a b) = _
    rw [Core.val64_dmul, ea, eb, h1]
  have hq := Core.qmin_neg Core.good_b64
  have := own_rnd_of_round (e0 := 2 * Core.b64.qmin) hv (by omega) h2
  rw [h3, Core.signed_xor, show Core.b64.qmin - 2 * Core.b64.qmin = -Core.b64.qmin by omega, Core.pow_qmin64] at this
  unfold own_zv; rw [ea, eb]; exact this
theorem own_ddiv_rnd {a b : UInt64} (ha : Core.DFin a) (hb : Core.DFin b) (hz : own_zv b ≠ 0) : own_rnd (if 0 < own_zv b then own_zv a * own_U else -(own_zv a * own_U)) (own_zv b).natAbs (FP.ddiv a b) := by
  obtain ⟨s, c, q, ea⟩ := ha
  obtain ⟨t, d, r, eb⟩ := hb
  have fa := Core.val64_fits a; have fb := Core.val64_fits b
  rw [ea] at fa; rw [eb] at fb
  have hq1 := fa.2.1; have hq2 := fb.2.1
  have hqm := Core.qmin_neg Core.good_b64
  have zb : own_zv b = Core.signed t (Core.inUnits d r Core.b64.qmin) := by unfold own_zv; rw [eb]; rfl
  have za : own_zv a = Core.signed s (Core.inUnits c q Core.b64.qmin) := by unfold own_zv; rw [ea]; rfl
  have d0 : d ≠ 0 := fun h => hz (by rw [zb, h]; unfold Core.inUnits; rw [Nat.zero_mul]; exact Core.signed_zero t)
  have hB : 0 < Core.inUnits d r Core.b64.qmin := Nat.mul_pos (Nat.pos_of_ne_zero d0) (Nat.two_pow_pos _)
  have hv : Core.val64 (FP.ddiv a b) = Core.roundRatio Core.b64 (s != t) c d (q - r) := by
    show Core.val64 (Core.ddiv a b) = _
    rw [Core.val64_ddiv, ea, eb]; show (if d = 0 then _ else _) = _; rw [if_neg d0]
  have e1 : Core.inUnits c (q - r) (Core.b64.qmin - (r - Core.b64.qmin)) = Core.inUnits c q Core.b64.qmin * Core.one64 := by
    unfold Core.inUnits
    rw [← Core.pow_qmin64, Nat.mul_assoc, ← Nat.pow_add, show (q - r - (Core.b64.qmin - (r - Core.b64.qmin))).toNat = (q - Core.b64.qmin).toNat + (-Core.b64.qmin).toNat by omega]
  have e2 : ∀ v : Nat, v * 2 ^ (Core.b64.qmin - (Core.b64.qmin - (r - Core.b64.qmin))).toNat * d = v * Core.inUnits d r Core.b64.qmin := fun v => by
    unfold Core.inUnits
    rw [show Core.b64.qmin - (Core.b64.qmin - (r - Core.b64.qmin)) = r - Core.b64.qmin by omega, Nat.mul_assoc, Nat.mul_comm (2 ^ _) d]
  have hle : ∀ V : Core.Datum, Core.fits Core.b64 V → V ≠ .nan → Core.inUnits c q Core.b64.qmin * Core.one64 ≤ Core.zmag Core.b64 V * Core.inUnits d r Core.b64.qmin → Core.zmag Core.b64 (Core.roundRatio Core.b64 (s != t) c d (q - r)) ≤ Core.zmag Core.b64 V := fun V hV hn h =>
    Core.zmag_roundRatio_le Core.good_b64 (e0 := Core.b64.qmin - (r - Core.b64.qmin)) (Nat.pos_of_ne_zero d0) hV hn (by omega) (by omega) (by rw [e1, e2]; exact h)
  have hge : ∀ V : Core.Datum, Core.fits Core.b64 V → V ≠ .nan → Core.zmag Core.b64 V * Core.inUnits d r Core.b64.qmin ≤ Core.inUnits c q Core.b64.qmin * Core.one64 → Core.zmag Core.b64 V ≤ Core.zmag Core.b64 (Core.roundRatio Core.b64 (s != t) c d (q - r)) := fun V hV hn h =>
    Core.zmag_roundRatio_ge Core.good_b64 (e0 := Core.b64.qmin - (r - Core.b64.qmin)) (Nat.pos_of_ne_zero d0) hV (by omega) (by omega) (by rw [e1, e2]; exact h)
  have zr : own_zv (FP.ddiv a b) = Core.signed (s != t) (Core.zmag Core.b64 (Core.roundRatio Core.b64 (s != t) c d (q - r))) := by
    unfold own_zv; rw [hv]; unfold Core.zval; rw [Core.sgn_roundRatio]
  have hN : (if 0 < own_zv b then own_zv a * own_U else -(own_zv a * own_U)) = Core.signed (s != t) (Core.inUnits c q Core.b64.qmin * Core.one64) := by
    rw [zb, za, ← Core.signed_mul]
    cases s <;> cases t <;> simp only [Core.signed, if_true, if_false, Bool.false_eq_true, bne_self_eq_false, Bool.true_bne, Bool.false_bne, Bool.not_false, Bool.not_true] <;> split <;> omega
  have hD : ((own_zv b).natAbs : Int) = (Core.inUnits d r Core.b64.qmin : Nat) := by rw [zb, Core.natAbs_signed]
  have hzz : ∀ v : Nat, v * Core.inUnits d r Core.b64.qmin = 0 → v = 0 := fun v h => by rcases Nat.mul_eq_zero.mp h with h | h <;> omega
  rw [hN, hD]
  refine ⟨by rw [hv]; exact Core.roundRatio_ne_nan _ _ _ _ _, fun V hV h => ?_, fun V hV h => ?_⟩
  all_goals
    have h1 := hle _ (Core.val64_fits V) hV; have h2 := hge _ (Core.val64_fits V) hV; have h3 := hzz (Core.zmag Core.b64 (Core.val64 V))
    rw [zr]
    rw [show own_zv V = Core.signed (Core.sgn (Core.val64 V)) (Core.zmag Core.b64 (Core.val64 V)) from rfl] at h ⊢
    rw [← Core.signed_mul] at h
    generalize Core.zmag Core.b64 (Core.val64 V) * Core.inUnits d r Core.b64.qmin = vP at *
    generalize Core.inUnits c q Core.b64.qmin * Core.one64 = A at *
    generalize Core.sgn (Core.val64 V) = tV at *
    generalize (s != t) = st at *
    cases st <;> cases tV <;> simp only [Core.signed, if_true, Bool.false_eq_true, if_false] at h ⊢
    all_goals first
      | omega
      | (have := h1 (by omega); omega)
      | (have := h2 (by omega); omega)
      | (have := h1 (by omega); have := h3 (by omega); omega)
      | (have := h2 (by omega); have := h3 (by omega); omega)
/-- numbers of 53 digits are doubles -/
theorem own_rep (c : Int) (j : Nat) (hc : c.natAbs < 2 ^ 53) (hj : j ≤ 2045) : ∃ V, Core.DFin V ∧ own_zv V = c * ((2 ^ j : Nat) : Int) := by
  have hq1 : Core.b64.qmin = -1074 := Core.qmin_b64
  have hq2 : Core.b64.qmax = 971 := by decide
  obtain ⟨c', q', h1, h2⟩ := Core.round_exact Core.good_b64 (decide (c < 0)) (c := c.natAbs) (q := Core.b64.qmin + j) hc (by omega) (by omega)
  have hv : Core.val64 (Core.of64 (Core.round Core.b64 (.fin (decide (c < 0)) c.natAbs (Core.b64.qmin + j)))) = .fin (decide (c < 0)) c' q' := by
    rw [Core.val64_of64 (Core.round_fits Core.good_b64 _), h1]
  refine ⟨_, ⟨_, _, _, hv⟩, ?_⟩
  unfold own_zv; rw [hv]
  show Core.signed (decide (c < 0)) (Core.inUnits c' q' Core.b64.qmin) = _
  rw [h2]; unfold Core.inUnits
  rw [Core.signed_mul, show (Core.b64.qmin + (j : Int) - Core.b64.qmin).toNat = j by omega]
  congr 1
  by_cases h : c < 0
  · simp only [Core.signed, h, decide_true, if_true]; omega
  · simp only [Core.signed, h, decide_false, Bool.false_eq_true, if_false]; omega
theorem own_zv_lt {a : UInt64} (h : Core.DFin a) : (own_zv a).natAbs < Core.b64.tails * 2 ^ (Core.b64.exps - 2) := by
  have := Core.DFin.zval_lt h
  unfold own_zv Core.zval; rw [Core.natAbs_signed]; exact this
theorem own_fin_of {r V : UInt64} (hr : Core.val64 r ≠ .nan) (hV : Core.DFin V) (h : (own_zv r).natAbs ≤ (own_zv V).natAbs) : Core.DFin r := by
  cases e : Core.val64 r with
  | nan => exact absurd e hr
  | inf s =>
    have h1 := own_zv_lt hV
    have h2 : (own_zv r).natAbs = Core.b64.tails * 2 ^ (Core.b64.exps - 2) := by unfold own_zv Core.zval; rw [Core.natAbs_signed, e]; rfl
    omega
  | fin s c q => exact ⟨s, c, q, e⟩
/-- what is representable is not rounded -/
theorem own_exactV {N D : Int} {r V : UInt64} (h : own_rnd N D r) (hV : Core.DFin V) (e : own_zv V * D = N) : Core.DFin r ∧ own_zv r = own_zv V := by
  have h1 := h.2.1 V hV.ne_nan (by omega)
  have h2 := h.2.2 V hV.ne_nan (by omega)
  have h3 : own_zv r = own_zv V := by omega
  exact ⟨own_fin_of h.1 hV (by rw [h3]; exact Nat.le_refl _), h3⟩
theorem own_exact {N D : Int} {r : UInt64} (h : own_rnd N D r) (c : Int) (j : Nat) (hc : c.natAbs < 2 ^ 53) (hj : j ≤ 2045) (e : c * ((2 ^ j : Nat) : Int) * D = N) : Core.DFin r ∧ own_zv r = c * ((2 ^ j : Nat) : Int) := by
  obtain ⟨V, f, z⟩ := own_rep c j hc hj
  rw [← z] at e ⊢
  exact own_exactV h f e
/-! the order -/
theorem own_dcmp {a b : UInt64} (ha : Core.val64 a ≠ .nan) (hb : Core.val64 b ≠ .nan) : FP.dcmp a b = some (compare (own_zv a) (own_zv b)) := Core.dcmp_zval ha hb
theorem own_cmpv {a b : UInt64} (ha : Core.val64 a ≠ .nan) (hb : Core.val64 b ≠ .nan) (o : CmpOp) : cmpValue (FP.dcmp a b) o = if own_zv a < own_zv b then -1 else if own_zv a = own_zv b then 0 else 1 := by
  rw [own_dcmp ha hb, Core.compare_ite]
  by_cases h1 : own_zv a < own_zv b
  · simp only [h1, if_true]; cases o <;> rfl
  · by_cases h2 : own_zv a = own_zv b
    · simp only [h2, Int.lt_irrefl, if_true, if_false]; cases o <;> rfl
    · simp only [h1, h2, if_false]; cases o <;> rfl
theorem own_cmp_le {a b : UInt64} (ha : Core.val64 a ≠ .nan) (hb : Core.val64 b ≠ .nan) (h : own_zv a ≤ own_zv b) (o : CmpOp) : ¬ ((0 : Int32) < cmpValue (FP.dcmp a b) o) := by
  rw [own_cmpv ha hb]
  by_cases h1 : own_zv a < own_zv b
  · rw [if_pos h1]; decide
  · rw [if_neg h1, if_pos (by omega)]; decide
theorem own_cmp_ge {a b : UInt64} (ha : Core.val64 a ≠ .nan) (hb : Core.val64 b ≠ .nan) (h : own_zv b ≤ own_zv a) (o : CmpOp) : ¬ (cmpValue (FP.dcmp a b) o < (0 : Int32)) := by
  rw [own_cmpv ha hb, if_neg (by omega)]
  by_cases h1 : own_zv a = own_zv b
  · rw [if_pos h1]; decide
  · rw [if_neg h1]; decide
theorem own_cmp_lt {a b : UInt64} (ha : Core.val64 a ≠ .nan) (hb : Core.val64 b ≠ .nan) (h : own_zv a < own_zv b) (o : CmpOp) : cmpValue (FP.dcmp a b) o < (0 : Int32) := by
  rw [own_cmpv ha hb, if_pos h]; decide
theorem own_cmp_gt {a b : UInt64} (ha : Core.val64 a ≠ .nan) (hb : Core.val64 b ≠ .nan) (h : own_zv b < own_zv a) (o : CmpOp) : (0 : Int32) < cmpValue (FP.dcmp a b) o := by
  rw [own_cmpv ha hb, if_neg (by omega), if_neg (by omega)]; decide
theorem own_cmp_eq {a b : UInt64} (ha : Core.val64 a ≠ .nan) (hb : Core.val64 b ≠ .nan) (h : own_zv a = own_zv b) (o : CmpOp) : cmpValue (FP.dcmp a b) o = (0 : Int32) := by
  rw [own_cmpv ha hb, if_neg (by omega), if_pos h]
theorem own_cmp_ne {a b : UInt64} (ha : Core.val64 a ≠ .nan) (hb : Core.val64 b ≠ .nan) (h : own_zv a ≠ own_zv b) (o : CmpOp) : ¬ (cmpValue (FP.dcmp a b) o = (0 : Int32)) := by
  rw [own_cmpv ha hb]
  by_cases h1 : own_zv a < own_zv b
  · rw [if_pos h1]; decide
  · rw [if_neg h1, if_neg h]; decide
/-! no NaN -/
theorem own_nn {a : UInt64} (h : Core.val64 a ≠ .nan) : NoNaN64 a := noNaN64_no.mpr ((Core.notNaN_iff a).mpr h)
theorem own_rnd_nn {N D : Int} {r : UInt64} (h : own_rnd N D r) : NoNaN64 r := own_nn h.1
theorem own_fin_nn {a : UInt64} (h : Core.DFin a) : NoNaN64 a := own_nn h.ne_nan
/-! whole numbers -/
theorem own_i2d (x : Int32) : Core.DFin (FP.i2d x) ∧ own_zv (FP.i2d x) = x.toInt * own_U := ⟨Core.i2d_fin x, Core.DInt_zval (Core.i2d_int x)⟩
theorem own_l2d {x : Int64} (h : x.toInt.natAbs ≤ 2 ^ 53) : Core.DFin (FP.l2d x) ∧ own_zv (FP.l2d x) = x.toInt * own_U := ⟨Core.l2d_fin x, Core.DInt_zval (Core.l2d_int h)⟩
theorem own_U_eq : own_U = ((2 ^ 1074 : Nat) : Int) := rfl
end OwnFloat
section OwnFloat2
open Jvm.FP Jvm.FP.Core
theorem own_lt_U {i j : Int} : i * own_U < j * own_U ↔ i < j := by
  have h := own_U_pos
  constructor
  · intro q; exact Int.lt_of_mul_lt_mul_right q (Int.le_of_lt h)
  · intro q; exact Int.mul_lt_mul_of_pos_right q h
theorem own_eq_U {i j : Int} : i * own_U = j * own_U ↔ i = j := by
  have h := own_U_pos
  constructor
  · intro q; exact Int.eq_of_mul_eq_mul_right (by omega) q
  · intro q; rw [q]
/-- a is the whole number i -/
def own_is (i : Int) (a : UInt64) : Prop := Core.DFin a ∧ own_zv a = i * own_U
theorem own_is_i2d (x : Int32) : own_is x.toInt (FP.i2d x) := own_i2d x
theorem own_is_neg0 : own_is 0 (9223372036854775808 : UInt64) := ⟨by rw [Core.fin_bits]; decide, by decide +kernel⟩
theorem own_is_0 : own_is 0 (0 : UInt64) := ⟨by rw [Core.fin_bits]; decide, by decide +kernel⟩
theorem own_cmpU {a b : UInt64} {i j : Int} (ha : own_is i a) (hb : own_is j b) (o : CmpOp) : cmpValue (FP.dcmp a b) o = if i < j then -1 else if i = j then 0 else 1 := by
  rw [own_cmpv ha.1.ne_nan hb.1.ne_nan, ha.2, hb.2]; simp only [own_lt_U, own_eq_U]
end OwnFloat2
section OwnFloat3
open Jvm.FP Jvm.FP.Core
theorem own_is_dneg {i : Int} {a : UInt64} (h : own_is i a) : own_is (-i) (FP.dneg a) := by
  obtain ⟨f, z⟩ := own_dneg_zv h.1
  exact ⟨f, by rw [z, h.2, Int.neg_mul]⟩
theorem own_self {a : UInt64} (h : Core.DFin a) (o : CmpOp) : cmpValue (FP.dcmp a a) o = (0 : Int32) := own_cmp_eq h.ne_nan h.ne_nan rfl o
/-- x - x is nought -/
theorem own_dsub_self {a : UInt64} (h : Core.DFin a) : FP.dsub a a = 0 := by
  obtain ⟨s, c, q, e⟩ := h
  exact Core.dsub_self e
end OwnFloat3
section OwnFloat4
open Jvm.FP Jvm.FP.Core
theorem own_rep_le (c : Int) (j : Nat) (hc : c.natAbs ≤ 2 ^ 53) (hj : j ≤ 2044) : ∃ V, Core.DFin V ∧ own_zv V = c * ((2 ^ j : Nat) : Int) := by
  by_cases h : c.natAbs < 2 ^ 53
  · exact own_rep c j h (by omega)
  · obtain ⟨V, f, z⟩ := own_rep (c / 2) (j + 1) (by omega) (by omega)
    refine ⟨V, f, ?_⟩
    rw [z, Nat.pow_succ, Int.natCast_mul]
    have : c = c / 2 * 2 := by omega
    rw [Int.mul_comm ((2 ^ j : Nat) : Int), ← Int.mul_assoc]
    have e : c / 2 * ((2 : Nat) : Int) = c := by omega
    rw [e]
theorem own_rnd_scale {N D k : Int} {r : UInt64} (hk : 0 < k) (h : own_rnd (N * k) (D * k) r) : own_rnd N D r := by
  refine ⟨h.1, fun V hV q => h.2.1 V hV ?_, fun V hV q => h.2.2 V hV ?_⟩
  · rw [← Int.mul_assoc]; exact Int.mul_le_mul_of_nonneg_right q (Int.le_of_lt hk)
  · rw [← Int.mul_assoc]; exact Int.mul_le_mul_of_nonneg_right q (Int.le_of_lt hk)
/-- the relative error, one unit in the last place at the most -/
theorem own_rel {N D : Int} {r : UInt64} (h : own_rnd N D r) (hD : 0 < D) (lo : 4503599627370496 * D ≤ N) (hi : N / D < ((2 ^ 2096 : Nat) : Int)) :
    Core.DFin r ∧ 4503599627370496 * (own_zv r * D - N) ≤ N ∧ 4503599627370496 * (N - own_zv r * D) ≤ N := by
  have hM : 4503599627370496 ≤ N / D := Int.le_ediv_of_mul_le hD lo
  obtain ⟨m, hm⟩ : ∃ m : Nat, N / D = (m : Int) := ⟨(N / D).toNat, by omega⟩
  have hN := Int.mul_ediv_add_emod N D
  have hr0 := Int.emod_nonneg N (show D ≠ 0 by omega)
  have hr1 := Int.emod_lt_of_pos N hD
  have m0 : m ≠ 0 := by omega
  have l1 : 2 ^ m.log2 ≤ m := Nat.log2_self_le m0
  have l2 : m < 2 ^ (m.log2 + 1) := Nat.lt_log2_self
  have l3 : 52 ≤ m.log2 := by
    apply Nat.le_of_lt_succ
    apply (Nat.pow_lt_pow_iff_right (by decide : 1 < 2)).mp
    exact Nat.lt_of_le_of_lt (show 2 ^ 52 ≤ m by omega) l2
  have l4 : m.log2 < 2096 := by
    apply (Nat.pow_lt_pow_iff_right (by decide : 1 < 2)).mp
    exact Nat.lt_of_le_of_lt l1 (by rw [hm] at hi; exact Int.ofNat_lt.mp hi)
  obtain ⟨e, he⟩ : ∃ e, m.log2 = e + 52 := ⟨m.log2 - 52, by omega⟩
  have hg : 0 < 2 ^ e := Nat.two_pow_pos e
  have p1 : 2 ^ m.log2 = 2 ^ e * 4503599627370496 := by rw [he, Nat.pow_add]
  have p2 : 2 ^ (m.log2 + 1) = 2 ^ e * 9007199254740992 := by rw [he, Nat.pow_add, Nat.pow_add]; omega
  have dm := Nat.div_add_mod m (2 ^ e)
  have ml := Nat.mod_lt m hg
  have k1 : 4503599627370496 ≤ m / 2 ^ e := (Nat.le_div_iff_mul_le hg).mpr (by rw [Nat.mul_comm]; omega)
  have k2 : m / 2 ^ e < 9007199254740992 := (Nat.div_lt_iff_lt_mul hg).mpr (by rw [Nat.mul_comm]; omega)
  obtain ⟨V1, f1, z1⟩ := own_rep_le ((m / 2 ^ e : Nat) : Int) e (by omega) (by omega)
  obtain ⟨V2, f2, z2⟩ := own_rep_le ((m / 2 ^ e + 1 : Nat) : Int) e (by omega) (by omega)
  have a1 : ((m / 2 ^ e : Nat) : Int) * ((2 ^ e : Nat) : Int) ≤ (m : Int) := by rw [← Int.natCast_mul]; exact Int.ofNat_le.mpr (Nat.div_mul_le_self _ _)
  have a2 : (m : Int) + 1 ≤ ((m / 2 ^ e + 1 : Nat) : Int) * ((2 ^ e : Nat) : Int) := by
    rw [← Int.natCast_mul]; have : m + 1 ≤ (m / 2 ^ e + 1) * 2 ^ e := by rw [Nat.add_mul, Nat.one_mul, Nat.mul_comm]; omega
    exact Int.ofNat_le.mpr this
  have a3 : ((m / 2 ^ e + 1 : Nat) : Int) * ((2 ^ e : Nat) : Int) = ((m / 2 ^ e : Nat) : Int) * ((2 ^ e : Nat) : Int) + ((2 ^ e : Nat) : Int) := by
    rw [Int.natCast_add, Int.add_mul]; simp
  have a4 : 4503599627370496 * ((2 ^ e : Nat) : Int) ≤ (m : Int) := by
    have : 2 ^ e * 4503599627370496 ≤ m := by omega
    omega
  have b1 : own_zv V1 * D ≤ N := by
    rw [z1]; have := Int.mul_le_mul_of_nonneg_right a1 (Int.le_of_lt hD); rw [hm, Int.mul_comm] at hN; omega
  have b2 : N ≤ own_zv V2 * D := by
    rw [z2]; have := Int.mul_le_mul_of_nonneg_right a2 (Int.le_of_lt hD); rw [Int.add_mul, Int.one_mul] at this; rw [hm, Int.mul_comm] at hN; omega
  have c1 := h.2.1 V1 f1.ne_nan b1
  have c2 := h.2.2 V2 f2.ne_nan b2
  rw [z1] at c1 b1; rw [z2] at c2 b2
  have d1 := Int.mul_le_mul_of_nonneg_right c1 (Int.le_of_lt hD)
  have d2 := Int.mul_le_mul_of_nonneg_right c2 (Int.le_of_lt hD)
  have d3 := Int.mul_le_mul_of_nonneg_right a4 (Int.le_of_lt hD)
  rw [a3, Int.add_mul] at d2 b2
  have d4 : (m : Int) * D ≤ N := by rw [hm, Int.mul_comm] at hN; omega
  rw [Int.mul_assoc] at d3
  refine ⟨own_fin_of h.1 f2 ?_, by omega, by omega⟩
  rw [z2]
  have s0 : 0 ≤ ((m / 2 ^ e : Nat) : Int) * ((2 ^ e : Nat) : Int) := Int.mul_nonneg (Int.natCast_nonneg _) (Int.natCast_nonneg _)
  omega
theorem own_is_mul {i j : Int} {a b : UInt64} (ha : own_is i a) (hb : own_is j b) (h : (i * j).natAbs < 2 ^ 53) : own_is (i * j) (FP.dmul a b) := by
  refine own_exact (own_dmul_rnd ha.1 hb.1) (i * j) 1074 h (by decide) ?_
  rw [ha.2, hb.2, ← own_U_eq]; simp only [Int.mul_assoc, Int.mul_comm, Int.mul_left_comm]
theorem own_is_add {i j : Int} {a b : UInt64} (ha : own_is i a) (hb : own_is j b) (h : (i + j).natAbs < 2 ^ 53) : own_is (i + j) (FP.dadd a b) := by
  refine own_exact (own_dadd_rnd ha.1 hb.1) (i + j) 1074 h (by decide) ?_
  rw [ha.2, hb.2, ← own_U_eq, Int.mul_one, Int.add_mul]
theorem own_is_sub {i j : Int} {a b : UInt64} (ha : own_is i a) (hb : own_is j b) (h : (i - j).natAbs < 2 ^ 53) : own_is (i - j) (FP.dsub a b) := by
  refine own_exact (own_dsub_rnd ha.1 hb.1) (i - j) 1074 h (by decide) ?_
  rw [ha.2, hb.2, ← own_U_eq, Int.mul_one, Int.sub_mul]
theorem own_is_l2d {x : Int64} (h : x.toInt.natAbs ≤ 2 ^ 53) : own_is x.toInt (FP.l2d x) := own_l2d h
/-- the quotient of two whole numbers, the divisor positive -/
theorem own_is_div_rnd {i j : Int} {a b : UInt64} (ha : own_is i a) (hb : own_is j b) (hj : 0 < j) : own_rnd (i * own_U) j (FP.ddiv a b) := by
  have hU := own_U_pos
  have hz : 0 < own_zv b := by rw [hb.2]; exact Int.mul_pos hj hU
  have h := own_ddiv_rnd ha.1 hb.1 (by omega)
  rw [if_pos hz, Int.natAbs_of_nonneg (Int.le_of_lt hz), ha.2, hb.2] at h
  exact own_rnd_scale hU h
end OwnFloat4
section OwnFloat5
open Jvm.FP Jvm.FP.Core
/-- a is c * 2^(j - 1074) -/
def own_at (c : Int) (j : Nat) (a : UInt64) : Prop := Core.DFin a ∧ own_zv a = c * ((2 ^ j : Nat) : Int)
theorem own_at_is {i : Int} {a : UInt64} (h : own_is i a) : own_at i 1074 a := h
theorem own_at_add {c1 c2 : Int} {j : Nat} {a b : UInt64} (ha : own_at c1 j a) (hb : own_at c2 j b) (h : (c1 + c2).natAbs < 2 ^ 53) (hj : j ≤ 2045) : own_at (c1 + c2) j (FP.dadd a b) := by
  refine own_exact (own_dadd_rnd ha.1 hb.1) (c1 + c2) j h hj ?_
  rw [ha.2, hb.2, Int.mul_one, Int.add_mul]
theorem own_at_sub {c1 c2 : Int} {j : Nat} {a b : UInt64} (ha : own_at c1 j a) (hb : own_at c2 j b) (h : (c1 - c2).natAbs < 2 ^ 53) (hj : j ≤ 2045) : own_at (c1 - c2) j (FP.dsub a b) := by
  refine own_exact (own_dsub_rnd ha.1 hb.1) (c1 - c2) j h hj ?_
  rw [ha.2, hb.2, Int.mul_one, Int.sub_mul]
theorem own_at_mul {c1 c2 : Int} {j1 j2 : Nat} {a b : UInt64} (ha : own_at c1 j1 a) (hb : own_at c2 j2 b) (j : Nat) (e : j1 + j2 = j + 1074) (h : (c1 * c2).natAbs < 2 ^ 53) (hj : j ≤ 2045) : own_at (c1 * c2) j (FP.dmul a b) := by
  refine own_exact (own_dmul_rnd ha.1 hb.1) (c1 * c2) j h hj ?_
  have p : ((2 ^ j : Nat) : Int) * own_U = ((2 ^ j1 : Nat) : Int) * ((2 ^ j2 : Nat) : Int) := by rw [own_U_eq, ← Int.natCast_mul, ← Int.natCast_mul, ← Nat.pow_add, ← Nat.pow_add, e]
  rw [ha.2, hb.2, Int.mul_assoc (c1 * c2), p]; simp only [Int.mul_assoc, Int.mul_comm, Int.mul_left_comm]
/-- a quotient that is exact -/
theorem own_at_div {c1 c2 c : Int} {j1 j2 : Nat} {a b : UInt64} (ha : own_at c1 j1 a) (hb : own_at c2 j2 b) (hc : 0 < c2) (j : Nat) (e : c * c2 * ((2 ^ (j + j2) : Nat) : Int) = c1 * ((2 ^ (j1 + 1074) : Nat) : Int)) (h : c.natAbs < 2 ^ 53) (hj : j ≤ 2045) : own_at c j (FP.ddiv a b) := by
  have hz : 0 < own_zv b := by rw [hb.2]; exact Int.mul_pos hc (Int.natCast_pos.mpr (Nat.two_pow_pos _))
  have hr := own_ddiv_rnd ha.1 hb.1 (by omega)
  rw [if_pos hz, Int.natAbs_of_nonneg (Int.le_of_lt hz)] at hr
  refine own_exact hr c j h hj ?_
  rw [ha.2, hb.2, own_U_eq]
  rw [Nat.pow_add, Nat.pow_add, Int.natCast_mul, Int.natCast_mul] at e
  have l : c * ((2 ^ j : Nat) : Int) * (c2 * ((2 ^ j2 : Nat) : Int)) = c * c2 * (((2 ^ j : Nat) : Int) * ((2 ^ j2 : Nat) : Int)) := by simp only [Int.mul_assoc, Int.mul_comm, Int.mul_left_comm]
  rw [l, e, Int.mul_assoc]
theorem own_at_up {c : Int} {j i : Nat} {a : UInt64} (h : own_at c (j + i) a) : own_at (c * ((2 ^ i : Nat) : Int)) j a :=
  ⟨h.1, by rw [h.2, Nat.pow_add, Int.natCast_mul, Int.mul_assoc, Int.mul_comm ((2 ^ i : Nat) : Int)]⟩
theorem own_at_dn {c : Int} {j i : Nat} {a : UInt64} (h : own_at (c * ((2 ^ i : Nat) : Int)) j a) : own_at c (j + i) a :=
  ⟨h.1, by rw [h.2, Nat.pow_add, Int.natCast_mul, Int.mul_assoc, Int.mul_comm ((2 ^ i : Nat) : Int)]⟩
theorem own_at_eq {c : Int} {j : Nat} {a b : UInt64} (ha : own_at c j a) (hb : own_at c j b) (o : CmpOp) : cmpValue (FP.dcmp a b) o = (0 : Int32) := own_cmp_eq ha.1.ne_nan hb.1.ne_nan (by rw [ha.2, hb.2]) o
theorem own_at_nn {c : Int} {j : Nat} {a : UInt64} (h : own_at c j a) : NoNaN64 a := own_fin_nn h.1
end OwnFloat5
section OwnFloat6
open Jvm.FP Jvm.FP.Core
theorem own_is_div {k j : Int} {a b : UInt64} (ha : own_is (k * j) a) (hb : own_is j b) (hj : j ≠ 0) (h : k.natAbs < 2 ^ 53) : own_is k (FP.ddiv a b) := by
  have hU := own_U_pos
  have hz : own_zv b ≠ 0 := by rw [hb.2]; intro q; rcases Int.mul_eq_zero.mp q with q | q <;> omega
  refine own_exact (own_ddiv_rnd ha.1 hb.1 hz) k 1074 h (by decide) ?_
  rw [← own_U_eq]
  by_cases q : 0 < own_zv b
  · rw [if_pos q, Int.natAbs_of_nonneg (Int.le_of_lt q), ha.2, hb.2]; simp only [Int.mul_assoc, Int.mul_comm, Int.mul_left_comm]
  · rw [if_neg q]
    have e : ((own_zv b).natAbs : Int) = -own_zv b := by omega
    rw [e, ha.2, hb.2, Int.mul_neg]; congr 1; simp only [Int.mul_assoc, Int.mul_comm, Int.mul_left_comm]
theorem own_fin_between {r V1 V2 : UInt64} (hr : Core.val64 r ≠ .nan) (h1 : Core.DFin V1) (h2 : Core.DFin V2) (a : own_zv V1 ≤ own_zv r) (b : own_zv r ≤ own_zv V2) : Core.DFin r := by
  by_cases q : (own_zv r).natAbs ≤ (own_zv V1).natAbs
  · exact own_fin_of hr h1 q
  · exact own_fin_of hr h2 (by omega)
/-- a quotient by a whole number, of any dividend -/
theorem own_div_rnd {j : Int} {a b : UInt64} (ha : Core.DFin a) (hb : own_is j b) (hj : 0 < j) : own_rnd (own_zv a) j (FP.ddiv a b) := by
  have hU := own_U_pos
  have hz : 0 < own_zv b := by rw [hb.2]; exact Int.mul_pos hj hU
  have h := own_ddiv_rnd ha hb.1 (by omega)
  rw [if_pos hz, Int.natAbs_of_nonneg (Int.le_of_lt hz), hb.2] at h
  exact own_rnd_scale hU h
theorem own_rep_is (k : Int) (h : k.natAbs < 2 ^ 53) : ∃ V, own_is k V := own_rep k 1074 h (by decide)
end OwnFloat6
section OwnFloat7
open Jvm.FP Jvm.FP.Core
/-- one value, not nought: one pattern of bits -/
theorem own_bits {a b : UInt64} (ha : Core.DFin a) (hb : Core.DFin b) (e : own_zv a = own_zv b) (h : own_zv b ≠ 0) : a = b := by
  refine Core.eq_bits (fun q => h ?_) ?_
  · have := Core.DZero.zval q; exact this
  · show FP.dcmp a b = _
    rw [own_dcmp ha.ne_nan hb.ne_nan, e, Core.compare_self_int]
theorem own_at_bits {c : Int} {j : Nat} {a b : UInt64} (ha : own_at c j a) (hb : own_at c j b) (h : c ≠ 0) : a = b := by
  refine own_bits ha.1 hb.1 (by rw [ha.2, hb.2]) ?_
  rw [hb.2]; intro q
  rcases Int.mul_eq_zero.mp q with q | q
  · exact h q
  · have := Nat.two_pow_pos j; omega
theorem own_fin64 {a : UInt64} (h : Core.DFin a) : Fin64 a := fin64_core.mpr h
end OwnFloat7
section OwnFloat8
open Jvm.FP Jvm.FP.Core
/-- r's magnitude is A / B (units of 2^-1074), rounded to nearest -/
def own_rr (A B : Nat) (r : UInt64) : Prop := 0 < B ∧ ∃ s, Core.val64 r = Core.roundRatio Core.b64 s A B Core.b64.qmin
theorem own_mag {a : UInt64} : (own_zv a).natAbs = Core.zmag Core.b64 (Core.val64 a) := by unfold own_zv Core.zval; rw [Core.natAbs_signed]
theorem own_in0 (A : Nat) : Core.inUnits A Core.b64.qmin Core.b64.qmin = A := by unfold Core.inUnits; rw [own_pow0, Nat.mul_one]
theorem own_rr_mono {A1 B1 A2 B2 : Nat} {r1 r2 : UInt64} (h1 : own_rr A1 B1 r1) (h2 : own_rr A2 B2 r2) (f1 : Core.DFin r1) (f2 : Core.DFin r2) (h : A1 * B2 ≤ A2 * B1) : (own_zv r1).natAbs ≤ (own_zv r2).natAbs := by
  obtain ⟨b1, s1, e1⟩ := h1
  obtain ⟨b2, s2, e2⟩ := h2
  have n1 := f1.ne_nan; have n2 := f2.ne_nan
  rw [own_mag, own_mag]
  by_cases q1 : A1 ≤ Core.zmag Core.b64 (Core.val64 r2) * B1
  · have := Core.zmag_roundRatio_le Core.good_b64 (s := s1) (A := A1) (B := B1) (e := Core.b64.qmin) (e0 := Core.b64.qmin) b1 (Core.val64_fits r2) n2 (Int.le_refl _) (Int.le_refl _) (by rw [own_in0, own_pow0, Nat.mul_one]; exact q1)
    rw [← e1] at this; exact this
  · by_cases q2 : Core.zmag Core.b64 (Core.val64 r1) * B2 ≤ A2
    · have := Core.zmag_roundRatio_ge Core.good_b64 (s := s2) (A := A2) (B := B2) (e := Core.b64.qmin) (e0 := Core.b64.qmin) b2 (Core.val64_fits r1) (Int.le_refl _) (Int.le_refl _) (by rw [own_in0, own_pow0, Nat.mul_one]; exact q2)
      rw [← e2] at this; exact this
    · apply Nat.le_of_not_lt; intro hlt
      obtain ⟨t1, c1, x1, v1⟩ := f1
      obtain ⟨t2, c2, x2, v2⟩ := f2
      have g1 := Core.val64_fits r1; rw [v1] at g1
      have g2 := Core.val64_fits r2; rw [v2] at g2
      have d1 := Core.roundRatio_nearest Core.good_b64 (e0 := Core.b64.qmin) b1 (e1.symm.trans v1) g2.1 g2.2.1 (Int.le_refl _) (Int.le_refl _)
      have d2 := Core.roundRatio_nearest Core.good_b64 (e0 := Core.b64.qmin) b2 (e2.symm.trans v2) g1.1 g1.2.1 (Int.le_refl _) (Int.le_refl _)
      unfold Core.distance at d1 d2
      rw [own_in0] at d1 d2
      have z1 : Core.zmag Core.b64 (Core.val64 r1) = Core.inUnits c1 x1 Core.b64.qmin := by rw [v1]; rfl
      have z2 : Core.zmag Core.b64 (Core.val64 r2) = Core.inUnits c2 x2 Core.b64.qmin := by rw [v2]; rfl
      rw [← z1, ← z2] at d1 d2
      generalize hz1 : Core.zmag Core.b64 (Core.val64 r1) = Z1 at *
      generalize hz2 : Core.zmag Core.b64 (Core.val64 r2) = Z2 at *
      rw [← Int.natCast_mul, ← Int.natCast_mul] at d1 d2
      -- A1 < Z1 * B1 as well
      have k1 : A1 * B2 < Z1 * B1 * B2 := by
        have : A2 * B1 < Z1 * B2 * B1 := Nat.mul_lt_mul_of_pos_right (by omega) b1
        have e : Z1 * B2 * B1 = Z1 * B1 * B2 := by simp only [Nat.mul_assoc, Nat.mul_comm, Nat.mul_left_comm]
        omega
      have k2 : A1 < Z1 * B1 := Nat.lt_of_mul_lt_mul_right k1
      have k3 : Z2 * B1 * B2 < A2 * B1 := by
        have : Z2 * B1 * B2 < A1 * B2 := Nat.mul_lt_mul_of_pos_right (by omega) b2
        omega
      have k4 : Z2 * B2 < A2 := by
        have e : Z2 * B1 * B2 = Z2 * B2 * B1 := by simp only [Nat.mul_assoc, Nat.mul_comm, Nat.mul_left_comm]
        rw [e] at k3; exact Nat.lt_of_mul_lt_mul_right k3
      have m1 : (Z1 + Z2) * B1 ≤ 2 * A1 := by rw [Nat.add_mul]; omega
      have m2 : 2 * A2 ≤ (Z1 + Z2) * B2 := by rw [Nat.add_mul]; omega
      have m3 := Nat.mul_le_mul_right B2 m1
      have m4 := Nat.mul_le_mul_right B1 m2
      have e3 : (Z1 + Z2) * B1 * B2 = (Z1 + Z2) * B2 * B1 := by simp only [Nat.mul_assoc, Nat.mul_comm, Nat.mul_left_comm]
      have e4 : 2 * A1 * B2 = 2 * (A1 * B2) := Nat.mul_assoc _ _ _
      have e5 : 2 * A2 * B1 = 2 * (A2 * B1) := Nat.mul_assoc _ _ _
      have e6 : A1 * B2 = A2 * B1 := by omega
      have cg := Core.roundRatio_congr (f := Core.b64) (s := s1) (e := Core.b64.qmin) (e' := Core.b64.qmin) b1 b2 (by rw [own_pow0, Nat.mul_one, Nat.mul_one]; exact e6)
      have w1 := Core.zmag_roundRatio_le Core.good_b64 (s := s1) (A := A2) (B := B2) (e := Core.b64.qmin) (e0 := Core.b64.qmin) (V := Core.val64 r2) b2 (Core.val64_fits r2) n2 (Int.le_refl _) (Int.le_refl _)
      -- one sign or the other: the magnitudes are one
      have sg : Core.zmag Core.b64 (Core.roundRatio Core.b64 s1 A2 B2 Core.b64.qmin) = Core.zmag Core.b64 (Core.roundRatio Core.b64 s2 A2 B2 Core.b64.qmin) := by
        by_cases q : s1 = s2
        · rw [q]
        · have e : s2 = !s1 := by cases s1 <;> cases s2 <;> simp at q ⊢
          have ng := Core.negate_roundRatio Core.b64 s1 A2 B2 Core.b64.qmin
          rw [e, ← ng]
          cases Core.roundRatio Core.b64 s1 A2 B2 Core.b64.qmin <;> rfl
      rw [← cg, ← e1, ← e2, hz1, hz2] at sg
      omega
theorem own_rr_of_round {x : UInt64} {sg : Bool} {n : Nat} {e : Int} {A B : Nat} (hx : Core.val64 x = Core.round Core.b64 (.fin sg n e)) (hB : 0 < B) (h : n * B * 2 ^ (e - Core.b64.qmin).toNat = A * 1 * 2 ^ (Core.b64.qmin - e).toNat) : own_rr A B x :=
  ⟨hB, sg, hx.trans (Core.roundRatio_congr (f := Core.b64) (s := sg) (by decide) hB h)⟩
theorem own_rr_dmul {a b : UInt64} (ha : Core.DFin a) (hb : Core.DFin b) : own_rr ((own_zv a).natAbs * (own_zv b).natAbs) Core.one64 (FP.dmul a b) := by
  obtain ⟨s, c, q, ea⟩ := ha
  obtain ⟨t, d, r, eb⟩ := hb
  have fa := Core.val64_fits a; have fb := Core.val64_fits b
  rw [ea] at fa; rw [eb] at fb
  have h1 := fa.2.1; have h2 := fb.2.1
  have hq := Core.qmin_neg Core.good_b64
  have hv : Core.val64 (FP.dmul a b) = Core.round Core.b64 (.fin (s != t) (c * d) (q + r)) := by
    show Core.val64 (Core.dmul a b) = _
    rw [Core.val64_dmul, ea, eb]; rfl
  refine own_rr_of_round hv Core.one64_pos ?_
  rw [own_mag, own_mag, ea, eb]
  show _ = Core.inUnits c q Core.b64.qmin * Core.inUnits d r Core.b64.qmin * 1 * _
  unfold Core.inUnits
  rw [← Core.pow_qmin64, Nat.mul_one]
  have l : c * d * 2 ^ (-Core.b64.qmin).toNat * 2 ^ (q + r - Core.b64.qmin).toNat = c * d * 2 ^ ((-Core.b64.qmin).toNat + (q + r - Core.b64.qmin).toNat) := by rw [Nat.pow_add, Nat.mul_assoc (c * d)]
  have m : c * 2 ^ (q - Core.b64.qmin).toNat * (d * 2 ^ (r - Core.b64.qmin).toNat) * 2 ^ (Core.b64.qmin - (q + r)).toNat = c * d * 2 ^ ((q - Core.b64.qmin).toNat + (r - Core.b64.qmin).toNat + (Core.b64.qmin - (q + r)).toNat) := by
    rw [Nat.pow_add, Nat.pow_add]; simp only [Nat.mul_assoc, Nat.mul_comm, Nat.mul_left_comm]
  rw [l, m]; congr 2; omega
theorem own_rr_dadd {a b : UInt64} (ha : Core.DFin a) (hb : Core.DFin b) : own_rr (own_zv a + own_zv b).natAbs 1 (FP.dadd a b) := by
  obtain ⟨s, c, q, ea⟩ := ha
  obtain ⟨t, d, r, eb⟩ := hb
  have fa := Core.val64_fits a; have fb := Core.val64_fits b
  rw [ea] at fa; rw [eb] at fb
  obtain ⟨sg, n, e, h1, h2, h3⟩ := Core.sum_units fa fb
  have hv : Core.val64 (FP.dadd a b) = Core.round Core.b64 (.fin sg n e) := by
    show Core.val64 (Core.dadd a b) = _
    rw [Core.val64_dadd, ea, eb, h1]
  refine own_rr_of_round hv (by decide) ?_
  have z : (own_zv a + own_zv b).natAbs = Core.inUnits n e Core.b64.qmin := by
    unfold own_zv; rw [ea, eb, ← h3, Core.natAbs_signed]
  rw [z, Nat.mul_one, Nat.mul_one]
  unfold Core.inUnits
  rw [show (Core.b64.qmin - e).toNat = 0 by omega, Nat.pow_zero, Nat.mul_one]
theorem own_rr_ddiv {a b : UInt64} (ha : Core.DFin a) (hb : Core.DFin b) (hz : own_zv b ≠ 0) : own_rr ((own_zv a).natAbs * Core.one64) (own_zv b).natAbs (FP.ddiv a b) := by
  obtain ⟨s, c, q, ea⟩ := ha
  obtain ⟨t, d, r, eb⟩ := hb
  have fa := Core.val64_fits a; have fb := Core.val64_fits b
  rw [ea] at fa; rw [eb] at fb
  have h1 := fa.2.1; have h2 := fb.2.1
  have hq := Core.qmin_neg Core.good_b64
  have zb : own_zv b = Core.signed t (Core.inUnits d r Core.b64.qmin) := by unfold own_zv; rw [eb]; rfl
  have d0 : d ≠ 0 := fun h => hz (by rw [zb, h]; unfold Core.inUnits; rw [Nat.zero_mul]; exact Core.signed_zero t)
  have hv : Core.val64 (FP.ddiv a b) = Core.roundRatio Core.b64 (s != t) c d (q - r) := by
    show Core.val64 (Core.ddiv a b) = _
    rw [Core.val64_ddiv, ea, eb]; show (if d = 0 then _ else _) = _; rw [if_neg d0]
  refine ⟨by omega, s != t, hv.trans (Core.roundRatio_congr (Nat.pos_of_ne_zero d0) (by omega) ?_)⟩
  rw [own_mag, own_mag, ea, eb]
  show c * Core.inUnits d r Core.b64.qmin * _ = Core.inUnits c q Core.b64.qmin * Core.one64 * d * _
  unfold Core.inUnits
  rw [← Core.pow_qmin64]
  have l : c * (d * 2 ^ (r - Core.b64.qmin).toNat) * 2 ^ (q - r - Core.b64.qmin).toNat = c * d * 2 ^ ((r - Core.b64.qmin).toNat + (q - r - Core.b64.qmin).toNat) := by
    rw [Nat.pow_add]; simp only [Nat.mul_assoc, Nat.mul_comm, Nat.mul_left_comm]
  have m : c * 2 ^ (q - Core.b64.qmin).toNat * 2 ^ (-Core.b64.qmin).toNat * d * 2 ^ (Core.b64.qmin - (q - r)).toNat = c * d * 2 ^ ((q - Core.b64.qmin).toNat + (-Core.b64.qmin).toNat + (Core.b64.qmin - (q - r)).toNat) := by
    rw [Nat.pow_add, Nat.pow_add]; simp only [Nat.mul_assoc, Nat.mul_comm, Nat.mul_left_comm]
  rw [l, m]; congr 2; omega
end OwnFloat8
section OwnFloat9
open Jvm.FP Jvm.FP.Core
/-- a quotient by a power of two -/
theorem own_at_divp {c : Int} {j i : Nat} {a b : UInt64} (ha : own_at c (j + i) a) (hb : own_at 1 (1074 + i) b) (h : c.natAbs < 2 ^ 53) (hj : j ≤ 2045) : own_at c j (FP.ddiv a b) := by
  refine own_at_div ha hb (by decide) j ?_ h hj
  rw [Int.mul_one, show j + (1074 + i) = j + i + 1074 by omega]
theorem own_8d : own_at 1 (1074 + 3) (4620693217682128896 : UInt64) := ⟨by rw [Core.fin_bits]; decide, by decide +kernel⟩
theorem own_2d : own_at 1 (1074 + 1) (4611686018427387904 : UInt64) := ⟨by rw [Core.fin_bits]; decide, by decide +kernel⟩
end OwnFloat9
section OwnFloat10
open Jvm.FP Jvm.FP.Core
/-- a lies from 0 to X -/
def own_bd (X : Int) (a : UInt64) : Prop := Core.DFin a ∧ 0 ≤ own_zv a ∧ own_zv a ≤ X * own_U
theorem own_bd_of {N D X : Int} {r : UInt64} (h : own_rnd N D r) (hX : 0 ≤ X) (hX2 : X.natAbs < 2 ^ 53) (hD : 0 ≤ D) (h0 : 0 ≤ N) (h1 : N ≤ X * own_U * D) : own_bd X r := by
  obtain ⟨V, f, z⟩ := own_rep_is X hX2
  have a := h.2.1 0 own_is_0.1.ne_nan (by rw [own_is_0.2, Int.zero_mul, Int.zero_mul]; exact h0)
  have b := h.2.2 V f.ne_nan (by rw [z]; exact h1)
  rw [own_is_0.2, Int.zero_mul] at a
  have p : 0 ≤ X * own_U := Int.mul_nonneg hX (Int.le_of_lt own_U_pos)
  refine ⟨own_fin_of h.1 f (by rw [z] at b ⊢; omega), a, by rw [z] at b; exact b⟩
theorem own_bd_mul {X Y : Int} {a b : UInt64} (ha : own_bd X a) (hb : own_bd Y b) (hX : 0 ≤ X) (hY : 0 ≤ Y) (h : (X * Y).natAbs < 2 ^ 53) : own_bd (X * Y) (FP.dmul a b) := by
  have hU := own_U_pos
  refine own_bd_of (own_dmul_rnd ha.1 hb.1) (Int.mul_nonneg hX hY) h (Int.le_of_lt hU) (Int.mul_nonneg ha.2.1 hb.2.1) ?_
  have e : X * Y * own_U * own_U = (X * own_U) * (Y * own_U) := by simp only [Int.mul_assoc, Int.mul_comm, Int.mul_left_comm]
  rw [e]
  exact Int.mul_le_mul ha.2.2 hb.2.2 hb.2.1 (Int.mul_nonneg hX (Int.le_of_lt hU))
theorem own_bd_add {X Y : Int} {a b : UInt64} (ha : own_bd X a) (hb : own_bd Y b) (hX : 0 ≤ X) (hY : 0 ≤ Y) (h : (X + Y).natAbs < 2 ^ 53) : own_bd (X + Y) (FP.dadd a b) := by
  have h1 := ha.2.1; have h2 := hb.2.1; have h3 := ha.2.2; have h4 := hb.2.2
  refine own_bd_of (own_dadd_rnd ha.1 hb.1) (by omega) h (by decide) (by omega) ?_
  rw [Int.mul_one, Int.add_mul]; omega
theorem own_bd_div {X m : Int} {a b : UInt64} (ha : own_bd X a) (hb : Core.DFin b) (hp : 0 < own_zv b) (hm : own_U ≤ m * own_zv b) (hX : 0 ≤ X) (h0 : 0 ≤ m) (h : (X * m).natAbs < 2 ^ 53) : own_bd (X * m) (FP.ddiv a b) := by
  have hU := own_U_pos
  have hr := own_ddiv_rnd ha.1 hb (by omega)
  rw [if_pos hp, Int.natAbs_of_nonneg (Int.le_of_lt hp)] at hr
  refine own_bd_of hr (Int.mul_nonneg hX h0) h (Int.le_of_lt hp) (Int.mul_nonneg ha.2.1 (Int.le_of_lt hU)) ?_
  have e : X * m * own_U * own_zv b = (X * own_U) * (m * own_zv b) := by simp only [Int.mul_assoc, Int.mul_comm, Int.mul_left_comm]
  rw [e]
  exact Int.mul_le_mul ha.2.2 hm (Int.le_of_lt hU) (Int.mul_nonneg hX (Int.le_of_lt hU))
theorem own_bd_is {i : Int} {a : UInt64} (h : own_is i a) (h0 : 0 ≤ i) {X : Int} (hX : i ≤ X) : own_bd X a := ⟨h.1, by rw [h.2]; exact Int.mul_nonneg h0 (Int.le_of_lt own_U_pos), by rw [h.2]; exact Int.mul_le_mul_of_nonneg_right hX (Int.le_of_lt own_U_pos)⟩
end OwnFloat10

def own_F (z : Int32) (f : Nat → UInt64) : List Value := (List.range z.toNatClampNeg).map fun i => Value.double (f i)
def own_upd (f : Nat → UInt64) (j : Int32) (v : UInt64) : Nat → UInt64 := fun i => if i = j.toNatClampNeg then v else f i
def own_cst (v : UInt64) : Nat → UInt64 := fun _ => v
theorem own_F_len (z : Int32) (f : Nat → UInt64) : (own_F z f).length = z.toNatClampNeg := by simp [own_F]
theorem own_F_at (z : Int32) (f : Nat → UInt64) (k : Nat) : (own_F z f)[k]? = if k < z.toNatClampNeg then some (.double (f k)) else none := by
  unfold own_F
  by_cases h : k < z.toNatClampNeg <;> simp [h]
theorem own_F_get {z : Int32} {f : Nat → UInt64} {k : Nat} (h : k < z.toNatClampNeg) : (own_F z f).getD k (.double 0) = .double (f k) := by
  rw [List.getD_eq_getElem?_getD, own_F_at, if_pos h]; rfl
theorem own_F_set (z : Int32) (f : Nat → UInt64) (j : Int32) (v : UInt64) : (own_F z f).set j.toNatClampNeg (.double v) = own_F z (own_upd f j v) := by
  apply List.ext_getElem?
  intro i
  rw [List.getElem?_set, own_F_at, own_F_at, own_F_len]
  unfold own_upd
  by_cases e : j.toNatClampNeg = i
  · subst e; simp
  · rw [if_neg e, if_neg (show ¬ i = j.toNatClampNeg from fun q => e q.symm)]
theorem own_newS {Z : State} {h : Heap} {a : Addr} {k : ClassId} {z : Int32} (A : Arr Z h a (newA k .double z) .double) (q : ¬ z < 0) : Arv Z h a k .double z (own_F z (own_cst 0)) (.double 0) := (Arv.new A q).pad fun i => by
  show (own_F z (own_cst 0)).getD i (.double 0) = ([] : List Value).getD i (.double 0)
  rw [List.getD_eq_getElem?_getD, own_F_at]
  split <;> rfl
theorem own_setS {Z : State} {h : Heap} {a : Addr} {k : ClassId} {z j : Int32} {f : Nat → UInt64} {v : UInt64} {d : Value} (F : Arv Z h a k .double z ((own_F z f).set j.toNatClampNeg (.double v)) d) : Arv Z h a k .double z (own_F z (own_upd f j v)) d := own_F_set z f j v ▸ F
theorem own_ltF {c : Cell} {z j : Int32} (S : c.slots.size = z.toNatClampNeg) (hin : ¬ (j < 0 ∨ c.slots.size ≤ j.toNatClampNeg)) : j.toNatClampNeg < z.toNatClampNeg := S ▸ Nat.lt_of_not_le fun q => hin (Or.inr q)
theorem own_ltL {c : Cell} {z j : Int32} {f : Nat → UInt64} (S : c.slots.size = z.toNatClampNeg) (hin : ¬ (j < 0 ∨ c.slots.size ≤ j.toNatClampNeg)) : j.toNatClampNeg < (own_F z f).length := by rw [own_F_len]; exact own_ltF S hin
theorem own_ilt {i z : Int32} (hi : ¬ i < 0) (hz : ¬ z < 0) : i < z ↔ i.toNatClampNeg < z.toNatClampNeg := by
  have e0 : (0 : Int32).toInt = 0 := by decide
  rw [Int32.lt_iff_toInt_lt, e0] at hi hz
  rw [Int32.lt_iff_toInt_lt]
  show _ ↔ i.toInt.toNat < z.toInt.toNat
  omega
theorem own_inc {i z : Int32} (hi : ¬ i < 0) (h : i < z) : ¬ (i + (1 : Int32)) < 0 ∧ (i + (1 : Int32)).toNatClampNeg = i.toNatClampNeg + 1 := by
  have e0 : (0 : Int32).toInt = 0 := by decide
  have e1 : (1 : Int32).toInt = 1 := by decide
  have b := z.toInt_lt
  rw [Int32.lt_iff_toInt_lt] at hi h
  rw [e0] at hi
  have e : (i + (1 : Int32)).toInt = i.toInt + 1 := by rw [Jvm.Kit.i32_add (by rw [e1]; omega) (by rw [e1]; omega), e1]
  refine ⟨?_, ?_⟩
  · rw [Int32.lt_iff_toInt_lt, e, e0]; omega
  · show (i + (1 : Int32)).toInt.toNat = i.toInt.toNat + 1
    rw [e]; omega
theorem own_F_ext {z : Int32} {f g : Nat → UInt64} (h : ∀ q, q < z.toNatClampNeg → f q = g q) : own_F z f = own_F z g := by
  apply List.ext_getElem?
  intro i
  rw [own_F_at, own_F_at]
  by_cases q : i < z.toNatClampNeg
  · rw [if_pos q, if_pos q, h i q]
  · rw [if_neg q, if_neg q]
theorem own_pn0 : plainName "java/util/Arrays" = true := by first | (simp [plainName, overriddenIn]; done) | decide +kernel
theorem own_d3_0 : decode jdk_65_method_113_code 0 = .ok (.iconst 0, 1) := by decide +kernel
theorem own_d3_1 : decode jdk_65_method_113_code 1 = .ok (.istore_n 3, 1) := by decide +kernel
theorem own_d3_2 : decode jdk_65_method_113_code 2 = .ok (.aload_n 0, 1) := by decide +kernel
theorem own_d3_3 : decode jdk_65_method_113_code 3 = .ok (.arraylength, 1) := by decide +kernel
theorem own_d3_4 : decode jdk_65_method_113_code 4 = .ok (.istore 4, 2) := by decide +kernel
theorem own_d3_6 : decode jdk_65_method_113_code 6 = .ok (.iload_n 3, 1) := by decide +kernel
theorem own_d3_7 : decode jdk_65_method_113_code 7 = .ok (.iload 4, 2) := by decide +kernel
theorem own_d3_9 : decode jdk_65_method_113_code 9 = .ok (.if_icmp .ge 13, 3) := by decide +kernel
theorem own_d3_12 : decode jdk_65_method_113_code 12 = .ok (.aload_n 0, 1) := by decide +kernel
theorem own_d3_13 : decode jdk_65_method_113_code 13 = .ok (.iload_n 3, 1) := by decide +kernel
theorem own_d3_14 : decode jdk_65_method_113_code 14 = .ok (.dload_n 1, 1) := by decide +kernel
theorem own_d3_15 : decode jdk_65_method_113_code 15 = .ok (.dastore, 1) := by decide +kernel
theorem own_d3_16 : decode jdk_65_method_113_code 16 = .ok (.iinc 3 1, 3) := by decide +kernel
theorem own_d3_19 : decode jdk_65_method_113_code 19 = .ok (.goto (-13), 3) := by decide +kernel
theorem own_d3_22 : decode jdk_65_method_113_code 22 = .ok (.return_, 1) := by decide +kernel
theorem own_ef3 (m : MethodId) (r0 : Addr) (d1 : UInt64) : entryFrame m #[(.ref r0), (.double d1)] 5 = mkF m 0 #[.val (.ref r0), .val (.double d1), .second, .unset, .unset] [] := by first | (simp [entryFrame, mkF, argsToLocals, Value.category]; done) | rfl
def own_Q3 (Z : State) (r0 : Addr) (d1 : UInt64) (k_r0 : ClassId) (z_r0 : Int32) (f_r0 : Nat → UInt64) (h0 : Heap) (n0 : Nat) (v : Option Value) (h : Heap) (L : List Loc) : Prop := v = none ∧ Fr n0 L ∧ Keep h0 h [r0] ∧ Arv Z h r0 k_r0 .double z_r0 (own_F z_r0 (own_cst d1)) (.double 0)
set_option maxRecDepth 65536 in
set_option maxHeartbeats 40000000 in
theorem own_rm3 (l : Launch) (Z : State) (a0 : Array Value) (hw : ∀ d ∈ tables_1, d.before a0 Z = true) (ws : List Jvm.Cond) (r0 : Addr) (d1 : UInt64) (k_r0 : ClassId) (z_r0 : Int32) (f_r0 : Nat → UInt64) (h0 : Heap) (n0 : Nat) (Z0 : n0 ≤ h0.size) (V_r0 : Arv Z h0 r0 k_r0 .double z_r0 (own_F z_r0 f_r0) (.double 0)) (g_r0 : n0 ≤ r0) :
    MetFree l (⟨"java/util/Arrays", "fill", "([DD)V"⟩ : MethodName) (head1 (Jvm.Cond.code (⟨"java/util/Arrays", "fill", "([DD)V"⟩ : MethodName) jdk_65_method_113_code 5 none :: ws) ({ frames := 0, cells := 0, slots := 0, locals := 0 } : Room)) (fun a U => a = #[(.ref r0), (.double d1)] ∧ Z.Warmed39 U.vm ∧ U.heap = h0) (fun _ _ _ _ _ => True) (fun _ U o U' => ∃ v L, o = .returned v ∧ own_Q3 Z r0 d1 k_r0 z_r0 f_r0 h0 n0 v U'.heap L ∧ FrameEnd U o U' L ({ frames := 0, cells := 0, slots := 0, locals := 0 } : Room).cells ({ frames := 0, cells := 0, slots := 0, locals := 0 } : Room).slots) := by
  refine MetFree.of_bodySF (plainFor_of_name own_pn0) hisR ?_
  intro p e s m args below meth c s₁ Bd hml0 hP hK
  obtain ⟨rfl, hZ, hh⟩ := hP
  have hx := Bd.exec
  have hby := Bd.bytes
  have hml : c.maxLocals = 5 := hml0
  have hown : s.vm.findClass "java/util/Arrays" = some m.cls := findClass_of_methodNamed Bd.named
  have hnm := (name_of_methodNamed Bd.named Bd.method).1
  have X0 : Stand p l e ({ frames := 0, cells := 0, slots := 0, locals := 0 } : Room) s m #[(.ref r0), (.double d1)] below meth c s₁ [] 0 0 := Stand.of_body Bd
  have e0 : s₁.heap = h0 := by rw [← hh, Bd.state]; rfl
  have N0 := Fr.nil n0
  have Zr : h0.size ≤ h0.size := Nat.le_refl _
  have pre0 : ∀ t, Steps p.tables e below (s₁.setTop (mkF m 0 #[.val (.ref r0), .val (.double d1), .second, .unset, .unset] [])) t → Steps p.tables e below (s₁.setTop (entryFrame m #[(.ref r0), (.double d1)] 5)) t := fun t k => castTop (own_ef3 m r0 d1) k
  obtain ⟨cl0, Ar0, q0, S0, Nz, H0, G0⟩ := id V_r0
  have loop : ∀ (d : Nat) (i : Int32) (T : State) (lc : List Loc) (h : Heap) (f : Nat → UInt64), ¬ i < 0 → i.toNatClampNeg + d = z_r0.toNatClampNeg → Stand p l e ({ frames := 0, cells := 0, slots := 0, locals := 0 } : Room) s m #[(.ref r0), (.double d1)] below meth c T lc 0 0 → Fr n0 lc → T.heap = h → Keep h0 h [r0] → Arv Z h r0 k_r0 .double z_r0 (own_F z_r0 f) (.double 0) → (∀ q, q < i.toNatClampNeg → f q = d1) →
      ∃ (i' : Int32) (T' : State) (lc' : List Loc) (h' : Heap) (f' : Nat → UInt64), Stand p l e ({ frames := 0, cells := 0, slots := 0, locals := 0 } : Room) s m #[(.ref r0), (.double d1)] below meth c T' lc' 0 0 ∧ Fr n0 lc' ∧ T'.heap = h' ∧ Keep h0 h' [r0] ∧ Arv Z h' r0 k_r0 .double z_r0 (own_F z_r0 f') (.double 0) ∧ (∀ q, q < z_r0.toNatClampNeg → f' q = d1) ∧
        ∀ target, Steps p.tables e below (T'.setTop (mkF m 22 #[.val (.ref r0), .val (.double d1), .second, .val (.int i'), .val (.int z_r0)] [])) target → Steps p.tables e below (T.setTop (mkF m 6 #[.val (.ref r0), .val (.double d1), .second, .val (.int i), .val (.int z_r0)] [])) target := by
    intro d
    induction d with
    | zero =>
      intro i T lc h f hi hd X hN hT hK hV hf
      refine ⟨i, T, lc, h, f, X, hN, hT, hK, hV, fun q hq => hf q (by omega), fun target kt => ?_⟩
      show Steps p.tables e below (T.setTop (mkF m 6 #[.val (.ref r0), .val (.double d1), .second, .val (.int i), .val (.int z_r0)] [])) _
      refine XS.iloadN X.here hx rfl (hb hby own_d3_6) rfl ?_
      refine XS.iload X.here hx rfl (hb hby own_d3_7) rfl ?_
      show Steps p.tables e below (T.setTop (mkF m 9 #[.val (.ref r0), .val (.double d1), .second, .val (.int i), .val (.int z_r0)] [(.int z_r0), (.int i)])) _
      refine XS.icmpYes X.here hx rfl (pc0 := 9) (pc' := 22) rfl (hb hby own_d3_9) rfl (XT.ii_ge_t (fun q => absurd ((own_ilt hi Nz).mp q) (by omega))) (by decide) (by decide) ?_
      exact kt
    | succ d ih =>
      intro i T lc h f hi hd X hN hT hK hV hf
      have hlt : i < z_r0 := (own_ilt hi Nz).mpr (by omega)
      obtain ⟨cl, Ar, q, S, N, H, G⟩ := id hV
      have hin := inb_of (j := i) S ⟨hi, hlt⟩
      obtain ⟨T1, h1, X1, e1, W1, st1⟩ := stD X hx hZ hT Ar (j := i) hin (g := (mkF m 15 #[.val (.ref r0), .val (.double d1), .second, .val (.int i), .val (.int z_r0)] [(.double d1), (.int i), (.ref r0)])) rfl rfl (hb hby own_d3_15)
      have V1 : Arv Z h1 r0 k_r0 .double z_r0 (own_F z_r0 (own_upd f i d1)) (.double 0) := own_setS (Arv.set Ar q S N H G rfl W1 _ rfl (own_ltL S hin))
      have K1 : Keep h0 h1 [r0] := hK.wr W1 (Or.inl (List.mem_of_getElem? (i := 0) rfl))
      have N1 := Fr.snoc X1 hN g_r0
      have ni := own_inc hi hlt
      obtain ⟨i', T', lc', h', f', X', a1, a2, a3, a4, a5, st'⟩ := ih (i + (1 : Int32)) T1 _ h1 (own_upd f i d1) ni.1 (by omega) X1 N1 e1 K1 V1 (fun q hq => by
        unfold own_upd
        by_cases w : q = i.toNatClampNeg
        · rw [if_pos w]
        · rw [if_neg w]; exact hf q (by omega))
      refine ⟨i', T', lc', h', f', X', a1, a2, a3, a4, a5, fun target kt => ?_⟩
      show Steps p.tables e below (T.setTop (mkF m 6 #[.val (.ref r0), .val (.double d1), .second, .val (.int i), .val (.int z_r0)] [])) _
      refine XS.iloadN X.here hx rfl (hb hby own_d3_6) rfl ?_
      refine XS.iload X.here hx rfl (hb hby own_d3_7) rfl ?_
      show Steps p.tables e below (T.setTop (mkF m 9 #[.val (.ref r0), .val (.double d1), .second, .val (.int i), .val (.int z_r0)] [(.int z_r0), (.int i)])) _
      refine XS.icmpNo X.here hx rfl (hb hby own_d3_9) rfl (XT.ii_ge_f hlt) ?_
      show Steps p.tables e below (T.setTop (mkF m 12 #[.val (.ref r0), .val (.double d1), .second, .val (.int i), .val (.int z_r0)] [])) _
      refine XS.aloadN X.here hx rfl (hb hby own_d3_12) rfl rfl ?_
      refine XS.iloadN X.here hx rfl (hb hby own_d3_13) rfl ?_
      refine XS.dloadN X.here hx rfl (hb hby own_d3_14) rfl ?_
      show Steps p.tables e below (T.setTop (mkF m 15 #[.val (.ref r0), .val (.double d1), .second, .val (.int i), .val (.int z_r0)] [(.double d1), (.int i), (.ref r0)])) _
      refine st1 _ ?_
      show Steps p.tables e below (T1.setTop (mkF m 16 #[.val (.ref r0), .val (.double d1), .second, .val (.int i), .val (.int z_r0)] [])) _
      refine XS.iinc X1.here hx rfl (hb hby own_d3_16) rfl (l' := #[.val (.ref r0), .val (.double d1), .second, .val (.int (i + (1 : Int32))), .val (.int z_r0)]) rfl ?_
      show Steps p.tables e below (T1.setTop (mkF m 19 #[.val (.ref r0), .val (.double d1), .second, .val (.int (i + (1 : Int32))), .val (.int z_r0)] [])) _
      refine XS.goto X1.here hx rfl (pc0 := 19) (pc' := 6) rfl (hb hby own_d3_19) (by decide) (by decide) ?_
      exact st' target kt
  obtain ⟨i', T', lc', h', f', X', a1, a2, a3, a4, a5, st'⟩ := loop z_r0.toNatClampNeg (0 : Int32) s₁ [] h0 f_r0 (by decide) (by show 0 + _ = _; omega) X0 N0 e0 (Keep.refl h0 [r0]) V_r0 (fun q hq => absurd hq (Nat.not_lt_zero _))
  obtain ⟨fs, hr, hrun, hended, hW, hsame⟩ := X'.leave (v := none) (fun _ => rfl)
  refine ⟨_, _, pre0 _ (?_), hrun, hended, _, _, rfl, ?_, ⟨_, rfl⟩, hW, hsame.mono (by decide) (by decide)⟩
  · show Steps p.tables e below (s₁.setTop (mkF m 0 #[.val (.ref r0), .val (.double d1), .second, .unset, .unset] [])) _
    refine XS.iconst X0.here hx rfl (hb hby own_d3_0) ?_
    refine XS.istoreN X0.here hx rfl (hb hby own_d3_1) rfl (l' := #[.val (.ref r0), .val (.double d1), .second, .val (.int 0), .unset]) rfl ?_
    show Steps p.tables e below (s₁.setTop (mkF m 2 #[.val (.ref r0), .val (.double d1), .second, .val (.int 0), .unset] [])) _
    refine XS.aloadN X0.here hx rfl (hb hby own_d3_2) rfl rfl ?_
    show Steps p.tables e below (s₁.setTop (mkF m 3 #[.val (.ref r0), .val (.double d1), .second, .val (.int 0), .unset] [(.ref r0)])) _
    refine X0.arraylength hx (by rw [e0]; exact Ar0.1) (State.isArrayOf_alike hZ.alike Ar0.2.1) (g := (mkF m 3 #[.val (.ref r0), .val (.double d1), .second, .val (.int 0), .unset] [(.ref r0)])) rfl rfl (hb hby own_d3_3) _ ?_
    rw [len_of S0 Nz]
    show Steps p.tables e below (s₁.setTop (mkF m 4 #[.val (.ref r0), .val (.double d1), .second, .val (.int 0), .unset] [(.int z_r0)])) _
    refine XS.istore X0.here hx rfl (hb hby own_d3_4) rfl (l' := #[.val (.ref r0), .val (.double d1), .second, .val (.int 0), .val (.int z_r0)]) rfl ?_
    refine st' _ ?_
    show Steps p.tables e below (T'.setTop (mkF m 22 #[.val (.ref r0), .val (.double d1), .second, .val (.int i'), .val (.int z_r0)] [])) _
    exact X'.returnOut hx Bd.returns (hb hby own_d3_22) hr
  · show own_Q3 Z r0 d1 k_r0 z_r0 f_r0 h0 n0 _ T'.heap _
    rw [a2]
    exact ⟨rfl, a1, a3, own_F_ext (g := own_cst d1) a5 ▸ a4⟩
theorem own_pn1 : plainName "com/example/evoluta/evoluta/algorithms/de/Jde$SelfAdaptation" = true := by first | (simp [plainName, overriddenIn]; done) | decide +kernel
theorem own_pd0 : parseMethodDescriptor "([DD)V" = some ⟨[(.array .double), .double], none⟩ := by decide +kernel
theorem own_d1_0 : decode prog_8_method_2_code 0 = .ok (.aload_n 0, 1) := by decide +kernel
theorem own_d1_1 : decode prog_8_method_2_code 1 = .ok (.invokespecial 27, 3) := by decide +kernel
theorem own_d1_4 : decode prog_8_method_2_code 4 = .ok (.aload_n 0, 1) := by decide +kernel
theorem own_d1_5 : decode prog_8_method_2_code 5 = .ok (.iload_n 1, 1) := by decide +kernel
theorem own_d1_6 : decode prog_8_method_2_code 6 = .ok (.newarray .double, 2) := by decide +kernel
theorem own_d1_8 : decode prog_8_method_2_code 8 = .ok (.putfield 33, 3) := by decide +kernel
theorem own_d1_11 : decode prog_8_method_2_code 11 = .ok (.aload_n 0, 1) := by decide +kernel
theorem own_d1_12 : decode prog_8_method_2_code 12 = .ok (.iload_n 1, 1) := by decide +kernel
theorem own_d1_13 : decode prog_8_method_2_code 13 = .ok (.newarray .double, 2) := by decide +kernel
theorem own_d1_15 : decode prog_8_method_2_code 15 = .ok (.putfield 39, 3) := by decide +kernel
theorem own_d1_18 : decode prog_8_method_2_code 18 = .ok (.aload_n 0, 1) := by decide +kernel
theorem own_d1_19 : decode prog_8_method_2_code 19 = .ok (.getfield 33, 3) := by decide +kernel
theorem own_d1_22 : decode prog_8_method_2_code 22 = .ok (.ldc2_w 42, 3) := by decide +kernel
theorem own_d1_25 : decode prog_8_method_2_code 25 = .ok (.invokestatic 44, 3) := by decide +kernel
theorem own_d1_28 : decode prog_8_method_2_code 28 = .ok (.aload_n 0, 1) := by decide +kernel
theorem own_d1_29 : decode prog_8_method_2_code 29 = .ok (.getfield 39, 3) := by decide +kernel
theorem own_d1_32 : decode prog_8_method_2_code 32 = .ok (.ldc2_w 50, 3) := by decide +kernel
theorem own_d1_35 : decode prog_8_method_2_code 35 = .ok (.invokestatic 44, 3) := by decide +kernel
theorem own_d1_38 : decode prog_8_method_2_code 38 = .ok (.aload_n 0, 1) := by decide +kernel
theorem own_d1_39 : decode prog_8_method_2_code 39 = .ok (.iload_n 1, 1) := by decide +kernel
theorem own_d1_40 : decode prog_8_method_2_code 40 = .ok (.newarray .double, 2) := by decide +kernel
theorem own_d1_42 : decode prog_8_method_2_code 42 = .ok (.putfield 52, 3) := by decide +kernel
theorem own_d1_45 : decode prog_8_method_2_code 45 = .ok (.aload_n 0, 1) := by decide +kernel
theorem own_d1_46 : decode prog_8_method_2_code 46 = .ok (.iload_n 1, 1) := by decide +kernel
theorem own_d1_47 : decode prog_8_method_2_code 47 = .ok (.newarray .double, 2) := by decide +kernel
theorem own_d1_49 : decode prog_8_method_2_code 49 = .ok (.putfield 55, 3) := by decide +kernel
theorem own_d1_52 : decode prog_8_method_2_code 52 = .ok (.return_, 1) := by decide +kernel
theorem own_ef1 (m : MethodId) (r0 : Addr) (p1 : Int32) : entryFrame m #[(.ref r0), (.int p1)] 2 = mkF m 0 #[.val (.ref r0), .val (.int p1)] [] := by first | (simp [entryFrame, mkF, argsToLocals, Value.category]; done) | rfl
def own_Q1 (Z : State) (r0 : Addr) (p1 : Int32) (w_scaleFactors_r0 : Value) (w_crossoverRates_r0 : Value) (w_trialScaleFactors_r0 : Value) (w_trialCrossoverRates_r0 : Value) (h0 : Heap) (n0 : Nat) (v : Option Value) (h : Heap) (L : List Loc) : Prop := ∃ (bn2 : Addr) (kn2 : ClassId) (bn8 : Addr) (kn8 : ClassId) (bn27 : Addr) (kn27 : ClassId) (bn33 : Addr) (kn33 : ClassId), v = none ∧ Fr n0 L ∧ Keep h0 h [r0] ∧ h0.size ≤ bn2 ∧ h0.size ≤ bn8 ∧ h0.size ≤ bn27 ∧ h0.size ≤ bn33 ∧ bn2 ≠ bn8 ∧ bn2 ≠ bn27 ∧ bn2 ≠ bn33 ∧ bn8 ≠ bn27 ∧ bn8 ≠ bn33 ∧ bn27 ≠ bn33 ∧ Exa Z h r0 "com/example/evoluta/evoluta/algorithms/de/Jde$SelfAdaptation" ∧ Fld Z h r0 "com/example/evoluta/evoluta/algorithms/de/Jde$SelfAdaptation" "scaleFactors" "[D" (.ref bn2) ∧ Fld Z h r0 "com/example/evoluta/evoluta/algorithms/de/Jde$SelfAdaptation" "crossoverRates" "[D" (.ref bn8) ∧ Fld Z h r0 "com/example/evoluta/evoluta/algorithms/de/Jde$SelfAdaptation" "trialScaleFactors" "[D" (.ref bn27) ∧ Fld Z h r0 "com/example/evoluta/evoluta/algorithms/de/Jde$SelfAdaptation" "trialCrossoverRates" "[D" (.ref bn33) ∧ Arv Z h bn2 kn2 .double p1 (own_F p1 (own_cst (4602678819172646912 : UInt64))) (.double 0) ∧ Arv Z h bn8 kn8 .double p1 (own_F p1 (own_cst (4606281698874543309 : UInt64))) (.double 0) ∧ Arv Z h bn27 kn27 .double p1 (own_F p1 (own_cst 0)) (.double 0) ∧ Arv Z h bn33 kn33 .double p1 (own_F p1 (own_cst 0)) (.double 0)
set_option maxRecDepth 65536 in
set_option maxHeartbeats 40000000 in
theorem own_rm1 (l : Launch) (Z : State) (a0 : Array Value) (hw : ∀ d ∈ tables_1, d.before a0 Z = true) (ws : List Jvm.Cond) (r0 : Addr) (p1 : Int32) (w_scaleFactors_r0 : Value) (w_crossoverRates_r0 : Value) (w_trialScaleFactors_r0 : Value) (w_trialCrossoverRates_r0 : Value) (h0 : Heap) (n0 : Nat) (Z0 : n0 ≤ h0.size) (E_r0 : Exa Z h0 r0 "com/example/evoluta/evoluta/algorithms/de/Jde$SelfAdaptation") (F_scaleFactors_r0 : Fld Z h0 r0 "com/example/evoluta/evoluta/algorithms/de/Jde$SelfAdaptation" "scaleFactors" "[D" w_scaleFactors_r0) (g_r0 : n0 ≤ r0) (F_crossoverRates_r0 : Fld Z h0 r0 "com/example/evoluta/evoluta/algorithms/de/Jde$SelfAdaptation" "crossoverRates" "[D" w_crossoverRates_r0) (F_trialScaleFactors_r0 : Fld Z h0 r0 "com/example/evoluta/evoluta/algorithms/de/Jde$SelfAdaptation" "trialScaleFactors" "[D" w_trialScaleFactors_r0) (F_trialCrossoverRates_r0 : Fld Z h0 r0 "com/example/evoluta/evoluta/algorithms/de/Jde$SelfAdaptation" "trialCrossoverRates" "[D" w_trialCrossoverRates_r0) (len6 : ¬ (p1 < 0) ∧ p1.toNatClampNeg ≤ 8) :
    MetFree l (⟨"com/example/evoluta/evoluta/algorithms/de/Jde$SelfAdaptation", "<init>", "(I)V"⟩ : MethodName) (head1 (Jvm.Cond.code (⟨"com/example/evoluta/evoluta/algorithms/de/Jde$SelfAdaptation", "<init>", "(I)V"⟩ : MethodName) prog_8_method_2_code 2 none :: ws) ({ frames := 1, cells := 4, slots := 32, locals := 16 } : Room)) (fun a U => a = #[(.ref r0), (.int p1)] ∧ Z.Warmed39 U.vm ∧ U.heap = h0) (fun _ _ _ _ _ => True) (fun _ U o U' => ∃ v L, o = .returned v ∧ own_Q1 Z r0 p1 w_scaleFactors_r0 w_crossoverRates_r0 w_trialScaleFactors_r0 w_trialCrossoverRates_r0 h0 n0 v U'.heap L ∧ FrameEnd U o U' L ({ frames := 1, cells := 4, slots := 32, locals := 16 } : Room).cells ({ frames := 1, cells := 4, slots := 32, locals := 16 } : Room).slots) := by
  refine MetFree.of_bodySF (plainFor_of_name own_pn1) hisR ?_
  intro p e s m args below meth c s₁ Bd hml0 hP hK
  obtain ⟨rfl, hZ, hh⟩ := hP
  have hx := Bd.exec
  have hby := Bd.bytes
  have hml : c.maxLocals = 2 := hml0
  have hown : s.vm.findClass "com/example/evoluta/evoluta/algorithms/de/Jde$SelfAdaptation" = some m.cls := findClass_of_methodNamed Bd.named
  have hnm := (name_of_methodNamed Bd.named Bd.method).1
  have X0 : Stand p l e ({ frames := 1, cells := 4, slots := 32, locals := 16 } : Room) s m #[(.ref r0), (.int p1)] below meth c s₁ [] 0 0 := Stand.of_body Bd
  have e0 : s₁.heap = h0 := by rw [← hh, Bd.state]; rfl
  have N0 := Fr.nil n0
  have Zr : h0.size ≤ h0.size := Nat.le_refl _
  have pre0 : ∀ t, Steps p.tables e below (s₁.setTop (mkF m 0 #[.val (.ref r0), .val (.int p1)] [])) t → Steps p.tables e below (s₁.setTop (entryFrame m #[(.ref r0), (.int p1)] 2)) t := fun t k => castTop (own_ef1 m r0 p1) k
  obtain ⟨Tn1, Xn1, en1, stn1⟩ := initO X0 hx hZ hown (own_W hw 7 rfl) (own_W hw 8 rfl) (own_W hw 9 rfl) e0 (g := (mkF m 1 #[.val (.ref r0), .val (.int p1)] [(.ref r0)])) rfl (by rw [hml]; rfl) rfl (hb hby own_d1_1) (by decide) (W := 0) (by show 2 * 0 + _ ≤ _; exact Nat.le_of_eq rfl) (by decide)
  obtain ⟨Tn2, hn2, kn2, Xn2, en2, En2, An2, stn2⟩ := newP Xn1 hx hZ (own_W hw 10 rfl) en1 (g := (mkF m 6 #[.val (.ref r0), .val (.int p1)] [(.int p1), (.ref r0)])) rfl (hb hby own_d1_6) rfl len6.1 (cap := 8) len6.2 (by decide) (by decide) (by decide)
  obtain ⟨bn2, gn2⟩ : ∃ z, z = h0.size := ⟨_, rfl⟩
  rw [← gn2] at An2 stn2
  have g_bn2 : n0 ≤ bn2 := Nat.le_trans Z0 (Nat.le_of_eq gn2.symm)
  have sz_bn2 : h0.size ≤ bn2 := Nat.le_trans Zr (Nat.le_of_eq gn2.symm)
  have sz3 : h0.size ≤ hn2.size := Nat.le_trans Zr En2.1
  have V_bn2 : Arv Z hn2 bn2 kn2 .double p1 (own_F p1 (own_cst 0)) (.double 0) := own_newS An2 len6.1
  have F4 := (E_r0.ext En2)
  have F5 := (F_scaleFactors_r0.ext En2)
  obtain ⟨Tn6, hn6, Xn6, en6, Wn6, stn6⟩ := putF Xn2 hx hZ hown (host := "") (Or.inl (own_W hw 11 rfl)) Via.refl en2 F5 F4 (Or.inr ⟨(own_W hw 12 rfl), rfl, hnm⟩) (own_W hw 2 rfl) (ty := (.array .double)) (by decide) rfl rfl (g := (mkF m 8 #[.val (.ref r0), .val (.int p1)] [(.ref bn2), (.ref r0)])) rfl rfl (hb hby own_d1_8)
  have Fwn6 : Fld Z hn6 r0 "com/example/evoluta/evoluta/algorithms/de/Jde$SelfAdaptation" "scaleFactors" "[D" (.ref bn2) := F5.same Wn6
  have sz7 : h0.size ≤ hn6.size := Nat.le_trans sz3 (Nat.le_of_eq Wn6.size.symm)
  have Nn6 := Fr.snoc Xn6 N0 g_r0
  obtain ⟨Tn8, hn8, kn8, Xn8, en8, En8, An8, stn8⟩ := newP Xn6 hx hZ (own_W hw 10 rfl) en6 (g := (mkF m 13 #[.val (.ref r0), .val (.int p1)] [(.int p1), (.ref r0)])) rfl (hb hby own_d1_13) rfl len6.1 (cap := 8) len6.2 (by decide) (by decide) (by decide)
  obtain ⟨bn8, gn8⟩ : ∃ z, z = hn6.size := ⟨_, rfl⟩
  rw [← gn8] at An8 stn8
  have g_bn8 : n0 ≤ bn8 := Nat.le_trans (Nat.le_trans Z0 sz7) (Nat.le_of_eq gn8.symm)
  have sz_bn8 : h0.size ≤ bn8 := Nat.le_trans sz7 (Nat.le_of_eq gn8.symm)
  have sz9 : h0.size ≤ hn8.size := Nat.le_trans sz7 En8.1
  have V_bn8 : Arv Z hn8 bn8 kn8 .double p1 (own_F p1 (own_cst 0)) (.double 0) := own_newS An8 len6.1
  have F10 := ((F4.wr Wn6).ext En8)
  have F11 := (((F_crossoverRates_r0.ext En2).other Wn6 (Or.inr (slot_ne (Or.inr (own_W hw 14 rfl)) (Or.inr (own_W hw 12 rfl)) (by decide) (t := (.array .double)) (t' := (.array .double)) (by decide) (by decide)))).ext En8)
  obtain ⟨Tn12, hn12, Xn12, en12, Wn12, stn12⟩ := putF Xn8 hx hZ hown (host := "") (Or.inl (own_W hw 13 rfl)) Via.refl en8 F11 F10 (Or.inr ⟨(own_W hw 14 rfl), rfl, hnm⟩) (own_W hw 2 rfl) (ty := (.array .double)) (by decide) rfl rfl (g := (mkF m 15 #[.val (.ref r0), .val (.int p1)] [(.ref bn8), (.ref r0)])) rfl rfl (hb hby own_d1_15)
  have Fwn12 : Fld Z hn12 r0 "com/example/evoluta/evoluta/algorithms/de/Jde$SelfAdaptation" "crossoverRates" "[D" (.ref bn8) := F11.same Wn12
  have sz13 : h0.size ≤ hn12.size := Nat.le_trans sz9 (Nat.le_of_eq Wn12.size.symm)
  have Nn12 := Fr.snoc Xn12 Nn6 g_r0
  have F14 := ((Fwn6.ext En8).other Wn12 (Or.inr (slot_ne (Or.inr (own_W hw 12 rfl)) (Or.inr (own_W hw 14 rfl)) (by decide) (t := (.array .double)) (t' := (.array .double)) (by decide) (by decide))))
  obtain ⟨Tn15, Xn15, en15, stn15⟩ := getF Xn12 hx hZ hown (host := "") (Or.inl (own_W hw 11 rfl)) Via.refl en12 F14 (g := (mkF m 19 #[.val (.ref r0), .val (.int p1)] [(.ref r0)])) rfl rfl (hb hby own_d1_19)
  have ne17 : bn2 ≠ r0 := (Ne.symm (Nat.ne_of_lt (Nat.lt_of_lt_of_le F_crossoverRates_r0.lt (Nat.le_of_eq gn2.symm))))
  have F18 := (((V_bn2.other Wn6 ne17).ext En8).other Wn12 ne17)
  obtain ⟨_, _, ⟨Tk16, Lk16, kk16, nk16⟩, -, Xk16, ⟨Lck16, hQk16, lk16, yk16, zk16⟩, stk16⟩ := Jvm.LawKit.callS Xn15 hx (y := (⟨"java/util/Arrays", "fill", "([DD)V"⟩ : MethodName)) hown (mvT hZ (own_W hw 16 rfl)) (mvT hZ (own_W hw 17 rfl)) (mvT hZ (own_W hw 18 rfl)) (mvT hZ (own_W hw 19 rfl)) (by decide) (backOf (W := 0) (own_rm3 l Z a0 hw [] bn2 (4602678819172646912 : UInt64) kn2 p1 (own_cst 0) hn12 n0 (Nat.le_trans Z0 sz13) F18 g_bn2) hZ (own_W hw 19 rfl) (own_W hw 18 rfl) (by decide) (by decide)) (g := (mkF m 25 #[.val (.ref r0), .val (.int p1)] [(.double 4602678819172646912), (.ref bn2)])) rfl (by rw [hml]; rfl) (argsL := [(.ref bn2), (.double 4602678819172646912)]) (rest := []) (lenOf own_pd0 rfl) rfl (by show 2 * 0 + _ ≤ _; exact Nat.le_of_eq rfl) (hb hby own_d1_25) (fun _ _ => ⟨rfl, en15, (by decide : 2 + 0 ≤ _), (by decide : 16 + 0 ≤ _)⟩)
  dsimp only [Pt.U, Pt.locs, Pt.cells, Pt.slots] at Xk16 lk16 yk16 zk16 stk16 hQk16
  replace lk16 := lk16.symm; replace yk16 := yk16.symm; replace zk16 := zk16.symm; subst lk16 yk16 zk16
  obtain ⟨rfl, Nk16q, Kk16, Qk16_0⟩ := hQk16
  have sz19 : h0.size ≤ Tk16.heap.size := Nat.le_trans sz13 Kk16.1
  have Nk16 := Fr.app Nn12 Nk16q
  have F20 := (Fwn12.keep Kk16 (ninS (Ne.symm ne17) nin0))
  obtain ⟨Tn21, Xn21, en21, stn21⟩ := getF Xk16 hx hZ hown (host := "") (Or.inl (own_W hw 13 rfl)) Via.refl rfl F20 (g := (mkF m 29 #[.val (.ref r0), .val (.int p1)] [(.ref r0)])) rfl rfl (hb hby own_d1_29)
  have ne23 : bn8 ≠ r0 := (Ne.symm (Nat.ne_of_lt (Nat.lt_of_lt_of_le ((F_crossoverRates_r0.ext En2).other Wn6 (Or.inr (slot_ne (Or.inr (own_W hw 14 rfl)) (Or.inr (own_W hw 12 rfl)) (by decide) (t := (.array .double)) (t' := (.array .double)) (by decide) (by decide)))).lt (Nat.le_of_eq gn8.symm))))
  have ne24 : bn2 ≠ bn8 := (Ne.symm (Ne.symm (Nat.ne_of_lt (Nat.lt_of_lt_of_le (V_bn2.other Wn6 ne17).lt (Nat.le_of_eq gn8.symm)))))
  have F25 := ((V_bn8.other Wn12 ne23).keep Kk16 (ninS (Ne.symm ne24) nin0))
  obtain ⟨_, _, ⟨Tk22, Lk22, kk22, nk22⟩, -, Xk22, ⟨Lck22, hQk22, lk22, yk22, zk22⟩, stk22⟩ := Jvm.LawKit.callS Xn21 hx (y := (⟨"java/util/Arrays", "fill", "([DD)V"⟩ : MethodName)) hown (mvT hZ (own_W hw 16 rfl)) (mvT hZ (own_W hw 17 rfl)) (mvT hZ (own_W hw 18 rfl)) (mvT hZ (own_W hw 19 rfl)) (by decide) (backOf (W := 0) (own_rm3 l Z a0 hw [] bn8 (4606281698874543309 : UInt64) kn8 p1 (own_cst 0) Tk16.heap n0 (Nat.le_trans Z0 sz19) F25 g_bn8) hZ (own_W hw 19 rfl) (own_W hw 18 rfl) (by decide) (by decide)) (g := (mkF m 35 #[.val (.ref r0), .val (.int p1)] [(.double 4606281698874543309), (.ref bn8)])) rfl (by rw [hml]; rfl) (argsL := [(.ref bn8), (.double 4606281698874543309)]) (rest := []) (lenOf own_pd0 rfl) rfl (by show 2 * 0 + _ ≤ _; exact Nat.le_of_eq rfl) (hb hby own_d1_35) (fun _ _ => ⟨rfl, en21, (by decide : 2 + 0 ≤ _), (by decide : 16 + 0 ≤ _)⟩)
  dsimp only [Pt.U, Pt.locs, Pt.cells, Pt.slots] at Xk22 lk22 yk22 zk22 stk22 hQk22
  replace lk22 := lk22.symm; replace yk22 := yk22.symm; replace zk22 := zk22.symm; subst lk22 yk22 zk22
  obtain ⟨rfl, Nk22q, Kk22, Qk22_0⟩ := hQk22
  have sz26 : h0.size ≤ Tk22.heap.size := Nat.le_trans sz19 Kk22.1
  have Nk22 := Fr.app Nk16 Nk22q
  obtain ⟨Tn27, hn27, kn27, Xn27, en27, En27, An27, stn27⟩ := newP Xk22 hx hZ (own_W hw 10 rfl) rfl (g := (mkF m 40 #[.val (.ref r0), .val (.int p1)] [(.int p1), (.ref r0)])) rfl (hb hby own_d1_40) rfl len6.1 (cap := 8) len6.2 (by decide) (by decide) (by decide)
  obtain ⟨bn27, gn27⟩ : ∃ z, z = Tk22.heap.size := ⟨_, rfl⟩
  rw [← gn27] at An27 stn27
  have g_bn27 : n0 ≤ bn27 := Nat.le_trans (Nat.le_trans Z0 sz26) (Nat.le_of_eq gn27.symm)
  have sz_bn27 : h0.size ≤ bn27 := Nat.le_trans sz26 (Nat.le_of_eq gn27.symm)
  have sz28 : h0.size ≤ hn27.size := Nat.le_trans sz26 En27.1
  have V_bn27 : Arv Z hn27 bn27 kn27 .double p1 (own_F p1 (own_cst 0)) (.double 0) := own_newS An27 len6.1
  have F29 := ((((F10.wr Wn12).keep Kk16).keep Kk22).ext En27)
  have F30 := (((((((F_trialScaleFactors_r0.ext En2).other Wn6 (Or.inr (slot_ne (Or.inr (own_W hw 22 rfl)) (Or.inr (own_W hw 12 rfl)) (by decide) (t := (.array .double)) (t' := (.array .double)) (by decide) (by decide)))).ext En8).other Wn12 (Or.inr (slot_ne (Or.inr (own_W hw 22 rfl)) (Or.inr (own_W hw 14 rfl)) (by decide) (t := (.array .double)) (t' := (.array .double)) (by decide) (by decide)))).keep Kk16 (ninS (Ne.symm ne17) nin0)).keep Kk22 (ninS (Ne.symm ne23) nin0)).ext En27)
  obtain ⟨Tn31, hn31, Xn31, en31, Wn31, stn31⟩ := putF Xn27 hx hZ hown (host := "") (Or.inl (own_W hw 21 rfl)) Via.refl en27 F30 F29 (Or.inr ⟨(own_W hw 22 rfl), rfl, hnm⟩) (own_W hw 2 rfl) (ty := (.array .double)) (by decide) rfl rfl (g := (mkF m 42 #[.val (.ref r0), .val (.int p1)] [(.ref bn27), (.ref r0)])) rfl rfl (hb hby own_d1_42)
  have Fwn31 : Fld Z hn31 r0 "com/example/evoluta/evoluta/algorithms/de/Jde$SelfAdaptation" "trialScaleFactors" "[D" (.ref bn27) := F30.same Wn31
  have sz32 : h0.size ≤ hn31.size := Nat.le_trans sz28 (Nat.le_of_eq Wn31.size.symm)
  have Nn31 := Fr.snoc Xn31 Nk22 g_r0
  obtain ⟨Tn33, hn33, kn33, Xn33, en33, En33, An33, stn33⟩ := newP Xn31 hx hZ (own_W hw 10 rfl) en31 (g := (mkF m 47 #[.val (.ref r0), .val (.int p1)] [(.int p1), (.ref r0)])) rfl (hb hby own_d1_47) rfl len6.1 (cap := 8) len6.2 (by decide) (by decide) (by decide)
  obtain ⟨bn33, gn33⟩ : ∃ z, z = hn31.size := ⟨_, rfl⟩
  rw [← gn33] at An33 stn33
  have g_bn33 : n0 ≤ bn33 := Nat.le_trans (Nat.le_trans Z0 sz32) (Nat.le_of_eq gn33.symm)
  have sz_bn33 : h0.size ≤ bn33 := Nat.le_trans sz32 (Nat.le_of_eq gn33.symm)
  have sz34 : h0.size ≤ hn33.size := Nat.le_trans sz32 En33.1
  have V_bn33 : Arv Z hn33 bn33 kn33 .double p1 (own_F p1 (own_cst 0)) (.double 0) := own_newS An33 len6.1
  have F35 := ((F29.wr Wn31).ext En33)
  have F36 := (((((((((F_trialCrossoverRates_r0.ext En2).other Wn6 (Or.inr (slot_ne (Or.inr (own_W hw 24 rfl)) (Or.inr (own_W hw 12 rfl)) (by decide) (t := (.array .double)) (t' := (.array .double)) (by decide) (by decide)))).ext En8).other Wn12 (Or.inr (slot_ne (Or.inr (own_W hw 24 rfl)) (Or.inr (own_W hw 14 rfl)) (by decide) (t := (.array .double)) (t' := (.array .double)) (by decide) (by decide)))).keep Kk16 (ninS (Ne.symm ne17) nin0)).keep Kk22 (ninS (Ne.symm ne23) nin0)).ext En27).other Wn31 (Or.inr (slot_ne (Or.inr (own_W hw 24 rfl)) (Or.inr (own_W hw 22 rfl)) (by decide) (t := (.array .double)) (t' := (.array .double)) (by decide) (by decide)))).ext En33)
  obtain ⟨Tn37, hn37, Xn37, en37, Wn37, stn37⟩ := putF Xn33 hx hZ hown (host := "") (Or.inl (own_W hw 23 rfl)) Via.refl en33 F36 F35 (Or.inr ⟨(own_W hw 24 rfl), rfl, hnm⟩) (own_W hw 2 rfl) (ty := (.array .double)) (by decide) rfl rfl (g := (mkF m 49 #[.val (.ref r0), .val (.int p1)] [(.ref bn33), (.ref r0)])) rfl rfl (hb hby own_d1_49)
  have Fwn37 : Fld Z hn37 r0 "com/example/evoluta/evoluta/algorithms/de/Jde$SelfAdaptation" "trialCrossoverRates" "[D" (.ref bn33) := F36.same Wn37
  have sz38 : h0.size ≤ hn37.size := Nat.le_trans sz34 (Nat.le_of_eq Wn37.size.symm)
  have Nn37 := Fr.snoc Xn37 Nn31 g_r0
  have ne39 : bn27 ≠ r0 := (Ne.symm (Nat.ne_of_lt (Nat.lt_of_lt_of_le ((((((F_trialCrossoverRates_r0.ext En2).other Wn6 (Or.inr (slot_ne (Or.inr (own_W hw 24 rfl)) (Or.inr (own_W hw 12 rfl)) (by decide) (t := (.array .double)) (t' := (.array .double)) (by decide) (by decide)))).ext En8).other Wn12 (Or.inr (slot_ne (Or.inr (own_W hw 24 rfl)) (Or.inr (own_W hw 14 rfl)) (by decide) (t := (.array .double)) (t' := (.array .double)) (by decide) (by decide)))).keep Kk16 (ninS (Ne.symm ne17) nin0)).keep Kk22 (ninS (Ne.symm ne23) nin0)).lt (Nat.le_of_eq gn27.symm))))
  have ne40 : bn33 ≠ r0 := (Ne.symm (Nat.ne_of_lt (Nat.lt_of_lt_of_le ((((((((F_trialCrossoverRates_r0.ext En2).other Wn6 (Or.inr (slot_ne (Or.inr (own_W hw 24 rfl)) (Or.inr (own_W hw 12 rfl)) (by decide) (t := (.array .double)) (t' := (.array .double)) (by decide) (by decide)))).ext En8).other Wn12 (Or.inr (slot_ne (Or.inr (own_W hw 24 rfl)) (Or.inr (own_W hw 14 rfl)) (by decide) (t := (.array .double)) (t' := (.array .double)) (by decide) (by decide)))).keep Kk16 (ninS (Ne.symm ne17) nin0)).keep Kk22 (ninS (Ne.symm ne23) nin0)).ext En27).other Wn31 (Or.inr (slot_ne (Or.inr (own_W hw 24 rfl)) (Or.inr (own_W hw 22 rfl)) (by decide) (t := (.array .double)) (t' := (.array .double)) (by decide) (by decide)))).lt (Nat.le_of_eq gn33.symm))))
  have ne41 : bn2 ≠ bn27 := (Nat.ne_of_lt (Nat.lt_of_lt_of_le (Qk16_0.keep Kk22 (ninS ne24 nin0)).lt (Nat.le_of_eq gn27.symm)))
  have ne42 : bn2 ≠ bn33 := (Nat.ne_of_lt (Nat.lt_of_lt_of_le (((Qk16_0.keep Kk22 (ninS ne24 nin0)).ext En27).other Wn31 ne17).lt (Nat.le_of_eq gn33.symm)))
  have ne43 : bn27 ≠ bn8 := (Ne.symm (Nat.ne_of_lt (Nat.lt_of_lt_of_le Qk22_0.lt (Nat.le_of_eq gn27.symm))))
  have ne44 : bn33 ≠ bn8 := (Ne.symm (Nat.ne_of_lt (Nat.lt_of_lt_of_le ((Qk22_0.ext En27).other Wn31 ne23).lt (Nat.le_of_eq gn33.symm))))
  have ne45 : bn27 ≠ bn33 := (Nat.ne_of_lt (Nat.lt_of_lt_of_le (V_bn27.other Wn31 ne39).lt (Nat.le_of_eq gn33.symm)))
  obtain ⟨fs, hr, hrun, hended, hW, hsame⟩ := Xn37.leave (v := none) (fun _ => rfl)
  refine ⟨_, _, pre0 _ (?_), hrun, hended, _, _, rfl, ?_, ⟨_, rfl⟩, hW, hsame.mono (by decide) (by decide)⟩
  · show Steps p.tables e below (s₁.setTop (mkF m 0 #[.val (.ref r0), .val (.int p1)] [])) _
    refine XS.aloadN X0.here hx rfl (hb hby own_d1_0) rfl rfl ?_
    refine stn1 _ ?_
    refine XS.aloadN Xn1.here hx rfl (hb hby own_d1_4) rfl rfl ?_
    refine XS.iloadN Xn1.here hx rfl (hb hby own_d1_5) rfl ?_
    refine stn2 _ ?_
    show Steps p.tables e below (Tn2.setTop (mkF m 8 #[.val (.ref r0), .val (.int p1)] [(.ref bn2), (.ref r0)])) _
    refine stn6 _ ?_
    refine XS.aloadN Xn6.here hx rfl (hb hby own_d1_11) rfl rfl ?_
    refine XS.iloadN Xn6.here hx rfl (hb hby own_d1_12) rfl ?_
    refine stn8 _ ?_
    show Steps p.tables e below (Tn8.setTop (mkF m 15 #[.val (.ref r0), .val (.int p1)] [(.ref bn8), (.ref r0)])) _
    refine stn12 _ ?_
    refine XS.aloadN Xn12.here hx rfl (hb hby own_d1_18) rfl rfl ?_
    refine stn15 _ ?_
    show Steps p.tables e below (Tn15.setTop (mkF m 22 #[.val (.ref r0), .val (.int p1)] [(.ref bn2)])) _
    refine Xn15.ldc2DoubleC hx hown (mvT hZ (own_W hw 15 rfl)) (g := (mkF m 22 #[.val (.ref r0), .val (.int p1)] [(.ref bn2)])) rfl (hb hby own_d1_22) _ ?_
    refine stk16 _ ?_
    refine XS.aloadN Xk16.here hx rfl (hb hby own_d1_28) rfl rfl ?_
    refine stn21 _ ?_
    show Steps p.tables e below (Tn21.setTop (mkF m 32 #[.val (.ref r0), .val (.int p1)] [(.ref bn8)])) _
    refine Xn21.ldc2DoubleC hx hown (mvT hZ (own_W hw 20 rfl)) (g := (mkF m 32 #[.val (.ref r0), .val (.int p1)] [(.ref bn8)])) rfl (hb hby own_d1_32) _ ?_
    refine stk22 _ ?_
    refine XS.aloadN Xk22.here hx rfl (hb hby own_d1_38) rfl rfl ?_
    refine XS.iloadN Xk22.here hx rfl (hb hby own_d1_39) rfl ?_
    refine stn27 _ ?_
    show Steps p.tables e below (Tn27.setTop (mkF m 42 #[.val (.ref r0), .val (.int p1)] [(.ref bn27), (.ref r0)])) _
    refine stn31 _ ?_
    refine XS.aloadN Xn31.here hx rfl (hb hby own_d1_45) rfl rfl ?_
    refine XS.iloadN Xn31.here hx rfl (hb hby own_d1_46) rfl ?_
    refine stn33 _ ?_
    show Steps p.tables e below (Tn33.setTop (mkF m 49 #[.val (.ref r0), .val (.int p1)] [(.ref bn33), (.ref r0)])) _
    refine stn37 _ ?_
    show Steps p.tables e below (Tn37.setTop (mkF m 52 #[.val (.ref r0), .val (.int p1)] [])) _
    exact Xn37.returnOut hx Bd.returns (hb hby own_d1_52) hr
  · show own_Q1 Z r0 p1 w_scaleFactors_r0 w_crossoverRates_r0 w_trialScaleFactors_r0 w_trialCrossoverRates_r0 h0 n0 _ Tn37.heap _
    rw [en37]
    exact ⟨bn2, kn2, bn8, kn8, bn27, kn27, bn33, kn33, rfl, Nn37, (((((((((((Keep.refl h0 [r0]).ext En2).wr Wn6 (Or.inl (List.mem_of_getElem? (i := 0) rfl))).ext En8).wr Wn12 (Or.inl (List.mem_of_getElem? (i := 0) rfl))).trans Kk16 (allS (Or.inr sz_bn2) all0)).trans Kk22 (allS (Or.inr sz_bn8) all0)).ext En27).wr Wn31 (Or.inl (List.mem_of_getElem? (i := 0) rfl))).ext En33).wr Wn37 (Or.inl (List.mem_of_getElem? (i := 0) rfl))), sz_bn2, sz_bn8, sz_bn27, sz_bn33, ne24, ne41, ne42, (Ne.symm ne43), (Ne.symm ne44), ne45, (F35.wr Wn37), ((((((F14.keep Kk16 (ninS (Ne.symm ne17) nin0)).keep Kk22 (ninS (Ne.symm ne23) nin0)).ext En27).other Wn31 (Or.inr (slot_ne (Or.inr (own_W hw 12 rfl)) (Or.inr (own_W hw 22 rfl)) (by decide) (t := (.array .double)) (t' := (.array .double)) (by decide) (by decide)))).ext En33).other Wn37 (Or.inr (slot_ne (Or.inr (own_W hw 12 rfl)) (Or.inr (own_W hw 24 rfl)) (by decide) (t := (.array .double)) (t' := (.array .double)) (by decide) (by decide)))), (((((F20.keep Kk22 (ninS (Ne.symm ne23) nin0)).ext En27).other Wn31 (Or.inr (slot_ne (Or.inr (own_W hw 14 rfl)) (Or.inr (own_W hw 22 rfl)) (by decide) (t := (.array .double)) (t' := (.array .double)) (by decide) (by decide)))).ext En33).other Wn37 (Or.inr (slot_ne (Or.inr (own_W hw 14 rfl)) (Or.inr (own_W hw 24 rfl)) (by decide) (t := (.array .double)) (t' := (.array .double)) (by decide) (by decide)))), ((Fwn31.ext En33).other Wn37 (Or.inr (slot_ne (Or.inr (own_W hw 22 rfl)) (Or.inr (own_W hw 24 rfl)) (by decide) (t := (.array .double)) (t' := (.array .double)) (by decide) (by decide)))), Fwn37, (((((Qk16_0.keep Kk22 (ninS ne24 nin0)).ext En27).other Wn31 ne17).ext En33).other Wn37 ne17), ((((Qk22_0.ext En27).other Wn31 ne23).ext En33).other Wn37 ne23), (((V_bn27.other Wn31 ne39).ext En33).other Wn37 ne39), (V_bn33.other Wn37 ne40)⟩
theorem own_d4_0 : decode prog_8_method_7_code 0 = .ok (.iconst 2, 1) := by decide +kernel
theorem own_d4_1 : decode prog_8_method_7_code 1 = .ok (.anewarray 66, 3) := by decide +kernel
theorem own_d4_4 : decode prog_8_method_7_code 4 = .ok (.dup, 1) := by decide +kernel
theorem own_d4_5 : decode prog_8_method_7_code 5 = .ok (.iconst 0, 1) := by decide +kernel
theorem own_d4_6 : decode prog_8_method_7_code 6 = .ok (.iconst 1, 1) := by decide +kernel
theorem own_d4_7 : decode prog_8_method_7_code 7 = .ok (.newarray .double, 2) := by decide +kernel
theorem own_d4_9 : decode prog_8_method_7_code 9 = .ok (.dup, 1) := by decide +kernel
theorem own_d4_10 : decode prog_8_method_7_code 10 = .ok (.iconst 0, 1) := by decide +kernel
theorem own_d4_11 : decode prog_8_method_7_code 11 = .ok (.aload_n 0, 1) := by decide +kernel
theorem own_d4_12 : decode prog_8_method_7_code 12 = .ok (.getfield 33, 3) := by decide +kernel
theorem own_d4_15 : decode prog_8_method_7_code 15 = .ok (.iload_n 1, 1) := by decide +kernel
theorem own_d4_16 : decode prog_8_method_7_code 16 = .ok (.daload, 1) := by decide +kernel
theorem own_d4_17 : decode prog_8_method_7_code 17 = .ok (.dastore, 1) := by decide +kernel
theorem own_d4_18 : decode prog_8_method_7_code 18 = .ok (.aastore, 1) := by decide +kernel
theorem own_d4_19 : decode prog_8_method_7_code 19 = .ok (.dup, 1) := by decide +kernel
theorem own_d4_20 : decode prog_8_method_7_code 20 = .ok (.iconst 1, 1) := by decide +kernel
theorem own_d4_21 : decode prog_8_method_7_code 21 = .ok (.iconst 1, 1) := by decide +kernel
theorem own_d4_22 : decode prog_8_method_7_code 22 = .ok (.newarray .double, 2) := by decide +kernel
theorem own_d4_24 : decode prog_8_method_7_code 24 = .ok (.dup, 1) := by decide +kernel
theorem own_d4_25 : decode prog_8_method_7_code 25 = .ok (.iconst 0, 1) := by decide +kernel
theorem own_d4_26 : decode prog_8_method_7_code 26 = .ok (.aload_n 0, 1) := by decide +kernel
theorem own_d4_27 : decode prog_8_method_7_code 27 = .ok (.getfield 39, 3) := by decide +kernel
theorem own_d4_30 : decode prog_8_method_7_code 30 = .ok (.iload_n 1, 1) := by decide +kernel
theorem own_d4_31 : decode prog_8_method_7_code 31 = .ok (.daload, 1) := by decide +kernel
theorem own_d4_32 : decode prog_8_method_7_code 32 = .ok (.dastore, 1) := by decide +kernel
theorem own_d4_33 : decode prog_8_method_7_code 33 = .ok (.aastore, 1) := by decide +kernel
theorem own_d4_34 : decode prog_8_method_7_code 34 = .ok (.areturn, 1) := by decide +kernel
def own_v4_0 (p1 : Int32) (f_w_scaleFactors_r0 : Nat → UInt64) : UInt64 := (f_w_scaleFactors_r0 p1.toNatClampNeg)
def own_v4_1 (p1 : Int32) (f_w_crossoverRates_r0 : Nat → UInt64) : UInt64 := (f_w_crossoverRates_r0 p1.toNatClampNeg)
theorem own_ef4 (m : MethodId) (r0 : Addr) (p1 : Int32) : entryFrame m #[(.ref r0), (.int p1)] 2 = mkF m 0 #[.val (.ref r0), .val (.int p1)] [] := by first | (simp [entryFrame, mkF, argsToLocals, Value.category]; done) | rfl
def own_Q4 (Z : State) (r0 : Addr) (p1 : Int32) (w_scaleFactors_r0 : Addr) (k_w_scaleFactors_r0 : ClassId) (z_w_scaleFactors_r0 : Int32) (f_w_scaleFactors_r0 : Nat → UInt64) (w_crossoverRates_r0 : Addr) (k_w_crossoverRates_r0 : ClassId) (z_w_crossoverRates_r0 : Int32) (f_w_crossoverRates_r0 : Nat → UInt64) (h0 : Heap) (n0 : Nat) (v : Option Value) (h : Heap) (L : List Loc) : Prop := ∃ (bn1 : Addr) (kn1 : ClassId) (bn3 : Addr) (kn3 : ClassId) (bn22 : Addr) (kn22 : ClassId), v = some (.ref bn1) ∧ Fr n0 L ∧ Keep h0 h [] ∧ h0.size ≤ bn1 ∧ h0.size ≤ bn3 ∧ h0.size ≤ bn22 ∧ bn1 ≠ bn3 ∧ bn1 ≠ bn22 ∧ bn3 ≠ bn22 ∧ Exa Z h bn1 "[[D" ∧ Arv Z h bn1 kn1 (.array .double) (2 : Int32) [(.ref bn3), (.ref bn22)] .null ∧ Exa Z h bn3 "[D" ∧ Arv Z h bn3 kn3 .double (1 : Int32) [(.double (own_v4_0 p1 f_w_scaleFactors_r0))] (.double 0) ∧ Exa Z h bn22 "[D" ∧ Arv Z h bn22 kn22 .double (1 : Int32) [(.double (own_v4_1 p1 f_w_crossoverRates_r0))] (.double 0)
set_option maxRecDepth 65536 in
set_option maxHeartbeats 40000000 in
theorem own_rm4 (l : Launch) (Z : State) (a0 : Array Value) (hw : ∀ d ∈ tables_1, d.before a0 Z = true) (ws : List Jvm.Cond) (r0 : Addr) (p1 : Int32) (w_scaleFactors_r0 : Addr) (k_w_scaleFactors_r0 : ClassId) (z_w_scaleFactors_r0 : Int32) (f_w_scaleFactors_r0 : Nat → UInt64) (w_crossoverRates_r0 : Addr) (k_w_crossoverRates_r0 : ClassId) (z_w_crossoverRates_r0 : Int32) (f_w_crossoverRates_r0 : Nat → UInt64) (h0 : Heap) (n0 : Nat) (Z0 : n0 ≤ h0.size) (F_scaleFactors_r0 : Fld Z h0 r0 "com/example/evoluta/evoluta/algorithms/de/Jde$SelfAdaptation" "scaleFactors" "[D" (.ref w_scaleFactors_r0)) (V_w_scaleFactors_r0 : Arv Z h0 w_scaleFactors_r0 k_w_scaleFactors_r0 .double z_w_scaleFactors_r0 (own_F z_w_scaleFactors_r0 f_w_scaleFactors_r0) (.double 0)) (F_crossoverRates_r0 : Fld Z h0 r0 "com/example/evoluta/evoluta/algorithms/de/Jde$SelfAdaptation" "crossoverRates" "[D" (.ref w_crossoverRates_r0)) (V_w_crossoverRates_r0 : Arv Z h0 w_crossoverRates_r0 k_w_crossoverRates_r0 .double z_w_crossoverRates_r0 (own_F z_w_crossoverRates_r0 f_w_crossoverRates_r0) (.double 0)) (in16 : ¬ (p1 < 0) ∧ p1 < z_w_scaleFactors_r0) (in31 : ¬ (p1 < 0) ∧ p1 < z_w_crossoverRates_r0) :
    MetFree l (⟨"com/example/evoluta/evoluta/algorithms/de/Jde$SelfAdaptation", "parameters", "(I)[[D"⟩ : MethodName) (head1 (Jvm.Cond.code (⟨"com/example/evoluta/evoluta/algorithms/de/Jde$SelfAdaptation", "parameters", "(I)[[D"⟩ : MethodName) prog_8_method_7_code 2 (some (.array (.array .double))) :: ws) ({ frames := 0, cells := 3, slots := 4, locals := 0 } : Room)) (fun a U => a = #[(.ref r0), (.int p1)] ∧ Z.Warmed39 U.vm ∧ U.heap = h0) (fun _ _ _ _ _ => True) (fun _ U o U' => ∃ v L, o = .returned v ∧ own_Q4 Z r0 p1 w_scaleFactors_r0 k_w_scaleFactors_r0 z_w_scaleFactors_r0 f_w_scaleFactors_r0 w_crossoverRates_r0 k_w_crossoverRates_r0 z_w_crossoverRates_r0 f_w_crossoverRates_r0 h0 n0 v U'.heap L ∧ FrameEnd U o U' L ({ frames := 0, cells := 3, slots := 4, locals := 0 } : Room).cells ({ frames := 0, cells := 3, slots := 4, locals := 0 } : Room).slots) := by
  refine MetFree.of_bodySF (plainFor_of_name own_pn1) hisR ?_
  intro p e s m args below meth c s₁ Bd hml0 hP hK
  obtain ⟨rfl, hZ, hh⟩ := hP
  have hx := Bd.exec
  have hby := Bd.bytes
  have hml : c.maxLocals = 2 := hml0
  have hown : s.vm.findClass "com/example/evoluta/evoluta/algorithms/de/Jde$SelfAdaptation" = some m.cls := findClass_of_methodNamed Bd.named
  have hnm := (name_of_methodNamed Bd.named Bd.method).1
  have X0 : Stand p l e ({ frames := 0, cells := 3, slots := 4, locals := 0 } : Room) s m #[(.ref r0), (.int p1)] below meth c s₁ [] 0 0 := Stand.of_body Bd
  have e0 : s₁.heap = h0 := by rw [← hh, Bd.state]; rfl
  have N0 := Fr.nil n0
  have Zr : h0.size ≤ h0.size := Nat.le_refl _
  have pre0 : ∀ t, Steps p.tables e below (s₁.setTop (mkF m 0 #[.val (.ref r0), .val (.int p1)] [])) t → Steps p.tables e below (s₁.setTop (entryFrame m #[(.ref r0), (.int p1)] 2)) t := fun t k => castTop (own_ef4 m r0 p1) k
  obtain ⟨Tn1, hn1, kn1, Xn1, en1, En1, An1, Exn1, On1, stn1⟩ := newRA X0 hx hZ hown (ty := .double) (C := "[D") (by decide) (own_W hw 30 rfl) (own_W hw 31 rfl) e0 (g := (mkF m 1 #[.val (.ref r0), .val (.int p1)] [(.int 2)])) rfl (hb hby own_d4_1) rfl (by decide) (cap := 2) (by decide) (by decide) (by decide) (by decide) (ad := "[[D") (by decide)
  obtain ⟨bn1, gn1⟩ : ∃ z, z = h0.size := ⟨_, rfl⟩
  rw [← gn1] at An1 Exn1 stn1
  have g_bn1 : n0 ≤ bn1 := Nat.le_trans Z0 (Nat.le_of_eq gn1.symm)
  have sz_bn1 : h0.size ≤ bn1 := Nat.le_trans Zr (Nat.le_of_eq gn1.symm)
  have sz2 : h0.size ≤ hn1.size := Nat.le_trans Zr En1.1
  have V_bn1 : Arv Z hn1 bn1 kn1 (.array .double) (2 : Int32) [.null, .null] .null := (Arv.new An1 (by decide)).pad (pad_rep [] .null 2)
  obtain ⟨Tn3, hn3, kn3, Xn3, en3, En3, An3, Exn3, stn3⟩ := newPE Xn1 hx hZ (own_W hw 10 rfl) en1 (g := (mkF m 7 #[.val (.ref r0), .val (.int p1)] [(.int 1), (.int 0), (.ref bn1), (.ref bn1)])) rfl (hb hby own_d4_7) rfl (by decide) (cap := 1) (by decide) (by decide) (by decide) (by decide) (ad := "[D") (by decide)
  obtain ⟨bn3, gn3⟩ : ∃ z, z = hn1.size := ⟨_, rfl⟩
  rw [← gn3] at An3 Exn3 stn3
  have g_bn3 : n0 ≤ bn3 := Nat.le_trans (Nat.le_trans Z0 sz2) (Nat.le_of_eq gn3.symm)
  have sz_bn3 : h0.size ≤ bn3 := Nat.le_trans sz2 (Nat.le_of_eq gn3.symm)
  have sz4 : h0.size ≤ hn3.size := Nat.le_trans sz2 En3.1
  have V_bn3 : Arv Z hn3 bn3 kn3 .double (1 : Int32) [(.double 0)] (.double 0) := (Arv.new An3 (by decide)).pad (pad_rep [] (.double 0) 1)
  have F5 := ((F_scaleFactors_r0.ext En1).ext En3)
  obtain ⟨Tn6, Xn6, en6, stn6⟩ := getF Xn3 hx hZ hown (host := "") (Or.inl (own_W hw 11 rfl)) Via.refl en3 F5 (g := (mkF m 12 #[.val (.ref r0), .val (.int p1)] [(.ref r0), (.int 0), (.ref bn3), (.ref bn3), (.int 0), (.ref bn1), (.ref bn1)])) rfl rfl (hb hby own_d4_12)
  have F7 := ((V_w_scaleFactors_r0.ext En1).ext En3)
  obtain ⟨clo8, Aro8, qo8, So8, No8, Ho8, Go8⟩ := id F7
  have hi9 := inb_of (j := p1) So8 in16
  have ha10 : _ = some (Value.double (f_w_scaleFactors_r0 p1.toNatClampNeg)) := Ho8.at hi9 (own_F_get (own_ltF So8 hi9))
  obtain ⟨clo11, Aro11, qo11, So11, No11, Ho11, Go11⟩ := id V_bn3
  have hi12 := inb_of (j := (0 : Int32)) So11 ⟨by decide, by decide⟩
  obtain ⟨To13, ho13, Xo13, eo13, Wo13, sto13⟩ := stD Xn6 hx hZ en6 Aro11 (j := (0 : Int32)) hi12 (g := (mkF m 17 #[.val (.ref r0), .val (.int p1)] [(.double (f_w_scaleFactors_r0 p1.toNatClampNeg)), (.int 0), (.ref bn3), (.ref bn3), (.int 0), (.ref bn1), (.ref bn1)])) rfl rfl (hb hby own_d4_17)
  have Vwo13 : Arv Z ho13 bn3 kn3 .double (1 : Int32) [(.double (own_v4_0 p1 f_w_scaleFactors_r0))] (.double 0) := Arv.set Aro11 qo11 So11 No11 Ho11 Go11 rfl Wo13 0 rfl (Nat.le_of_ble_eq_true rfl)
  have sz14 : h0.size ≤ ho13.size := Nat.le_trans sz4 (Nat.le_of_eq Wo13.size.symm)
  have Nfo13 := Fr.snoc Xo13 N0 g_bn3
  have ne15 : bn1 ≠ bn3 := (Nat.ne_of_lt (Nat.lt_of_lt_of_le V_bn1.lt (Nat.le_of_eq gn3.symm)))
  have F16 := ((V_bn1.ext En3).other Wo13 ne15)
  obtain ⟨clo17, Aro17, qo17, So17, No17, Ho17, Go17⟩ := id F16
  have hi18 := inb_of (j := (0 : Int32)) So17 ⟨by decide, by decide⟩
  have F20 := (Exn3.wr Wo13)
  obtain ⟨To19, ho19, Xo19, eo19, Wo19, sto19⟩ := stR Xo13 hx hZ eo13 Aro17 (j := (0 : Int32)) hi18 rfl (Sto.ofVA Aro17 qo17 On1 (Ins.self F20)) (g := (mkF m 18 #[.val (.ref r0), .val (.int p1)] [(.ref bn3), (.int 0), (.ref bn1), (.ref bn1)])) rfl rfl (hb hby own_d4_18)
  have Vwo19 : Arv Z ho19 bn1 kn1 (.array .double) (2 : Int32) [(.ref bn3), .null] .null := Arv.set Aro17 qo17 So17 No17 Ho17 Go17 rfl Wo19 0 rfl (Nat.le_of_ble_eq_true rfl)
  have sz21 : h0.size ≤ ho19.size := Nat.le_trans sz14 (Nat.le_of_eq Wo19.size.symm)
  have Nfo19 := Fr.snoc Xo19 Nfo13 g_bn1
  obtain ⟨Tn22, hn22, kn22, Xn22, en22, En22, An22, Exn22, stn22⟩ := newPE Xo19 hx hZ (own_W hw 10 rfl) eo19 (g := (mkF m 22 #[.val (.ref r0), .val (.int p1)] [(.int 1), (.int 1), (.ref bn1), (.ref bn1)])) rfl (hb hby own_d4_22) rfl (by decide) (cap := 1) (by decide) (by decide) (by decide) (by decide) (ad := "[D") (by decide)
  obtain ⟨bn22, gn22⟩ : ∃ z, z = ho19.size := ⟨_, rfl⟩
  rw [← gn22] at An22 Exn22 stn22
  have g_bn22 : n0 ≤ bn22 := Nat.le_trans (Nat.le_trans Z0 sz21) (Nat.le_of_eq gn22.symm)
  have sz_bn22 : h0.size ≤ bn22 := Nat.le_trans sz21 (Nat.le_of_eq gn22.symm)
  have sz23 : h0.size ≤ hn22.size := Nat.le_trans sz21 En22.1
  have V_bn22 : Arv Z hn22 bn22 kn22 .double (1 : Int32) [(.double 0)] (.double 0) := (Arv.new An22 (by decide)).pad (pad_rep [] (.double 0) 1)
  have ne24 : bn3 ≠ r0 := (Ne.symm (Nat.ne_of_lt (Nat.lt_of_lt_of_le (F_crossoverRates_r0.ext En1).lt (Nat.le_of_eq gn3.symm))))
  have ne25 : bn1 ≠ r0 := (Ne.symm (Nat.ne_of_lt (Nat.lt_of_lt_of_le F_crossoverRates_r0.lt (Nat.le_of_eq gn1.symm))))
  have F26 := (((((F_crossoverRates_r0.ext En1).ext En3).other Wo13 (Or.inl (Ne.symm ne24))).other Wo19 (Or.inl (Ne.symm ne25))).ext En22)
  obtain ⟨Tn27, Xn27, en27, stn27⟩ := getF Xn22 hx hZ hown (host := "") (Or.inl (own_W hw 13 rfl)) Via.refl en22 F26 (g := (mkF m 27 #[.val (.ref r0), .val (.int p1)] [(.ref r0), (.int 0), (.ref bn22), (.ref bn22), (.int 1), (.ref bn1), (.ref bn1)])) rfl rfl (hb hby own_d4_27)
  have ne28 : bn3 ≠ w_crossoverRates_r0 := (Ne.symm (Nat.ne_of_lt (Nat.lt_of_lt_of_le (V_w_crossoverRates_r0.ext En1).lt (Nat.le_of_eq gn3.symm))))
  have ne29 : bn1 ≠ w_crossoverRates_r0 := (Ne.symm (Nat.ne_of_lt (Nat.lt_of_lt_of_le V_w_crossoverRates_r0.lt (Nat.le_of_eq gn1.symm))))
  have F30 := (((((V_w_crossoverRates_r0.ext En1).ext En3).other Wo13 (Ne.symm ne28)).other Wo19 (Ne.symm ne29)).ext En22)
  obtain ⟨clo31, Aro31, qo31, So31, No31, Ho31, Go31⟩ := id F30
  have hi32 := inb_of (j := p1) So31 in31
  have ha33 : _ = some (Value.double (f_w_crossoverRates_r0 p1.toNatClampNeg)) := Ho31.at hi32 (own_F_get (own_ltF So31 hi32))
  obtain ⟨clo34, Aro34, qo34, So34, No34, Ho34, Go34⟩ := id V_bn22
  have hi35 := inb_of (j := (0 : Int32)) So34 ⟨by decide, by decide⟩
  obtain ⟨To36, ho36, Xo36, eo36, Wo36, sto36⟩ := stD Xn27 hx hZ en27 Aro34 (j := (0 : Int32)) hi35 (g := (mkF m 32 #[.val (.ref r0), .val (.int p1)] [(.double (f_w_crossoverRates_r0 p1.toNatClampNeg)), (.int 0), (.ref bn22), (.ref bn22), (.int 1), (.ref bn1), (.ref bn1)])) rfl rfl (hb hby own_d4_32)
  have Vwo36 : Arv Z ho36 bn22 kn22 .double (1 : Int32) [(.double (own_v4_1 p1 f_w_crossoverRates_r0))] (.double 0) := Arv.set Aro34 qo34 So34 No34 Ho34 Go34 rfl Wo36 0 rfl (Nat.le_of_ble_eq_true rfl)
  have sz37 : h0.size ≤ ho36.size := Nat.le_trans sz23 (Nat.le_of_eq Wo36.size.symm)
  have Nfo36 := Fr.snoc Xo36 Nfo19 g_bn22
  have ne38 : bn1 ≠ bn22 := (Nat.ne_of_lt (Nat.lt_of_lt_of_le Vwo19.lt (Nat.le_of_eq gn22.symm)))
  have F39 := ((Vwo19.ext En22).other Wo36 ne38)
  obtain ⟨clo40, Aro40, qo40, So40, No40, Ho40, Go40⟩ := id F39
  have hi41 := inb_of (j := (1 : Int32)) So40 ⟨by decide, by decide⟩
  have F43 := (Exn22.wr Wo36)
  obtain ⟨To42, ho42, Xo42, eo42, Wo42, sto42⟩ := stR Xo36 hx hZ eo36 Aro40 (j := (1 : Int32)) hi41 rfl (Sto.ofVA Aro40 qo40 On1 (Ins.self F43)) (g := (mkF m 33 #[.val (.ref r0), .val (.int p1)] [(.ref bn22), (.int 1), (.ref bn1), (.ref bn1)])) rfl rfl (hb hby own_d4_33)
  have Vwo42 : Arv Z ho42 bn1 kn1 (.array .double) (2 : Int32) [(.ref bn3), (.ref bn22)] .null := Arv.set Aro40 qo40 So40 No40 Ho40 Go40 rfl Wo42 1 rfl (Nat.le_of_ble_eq_true rfl)
  have sz44 : h0.size ≤ ho42.size := Nat.le_trans sz37 (Nat.le_of_eq Wo42.size.symm)
  have Nfo42 := Fr.snoc Xo42 Nfo36 g_bn1
  have ne45 : bn22 ≠ bn3 := (Ne.symm (Nat.ne_of_lt (Nat.lt_of_lt_of_le (F20.wr Wo19).lt (Nat.le_of_eq gn22.symm))))
  obtain ⟨fs, hr, hrun, hended, hW, hsame⟩ := Xo42.leave (v := some (.ref bn1)) (fun h => by rw [Bd.returns] at h; cases h)
  refine ⟨_, _, pre0 _ (?_), hrun, hended, _, _, rfl, ?_, ⟨_, rfl⟩, hW, hsame.mono (by decide) (by decide)⟩
  · show Steps p.tables e below (s₁.setTop (mkF m 0 #[.val (.ref r0), .val (.int p1)] [])) _
    refine XS.iconst X0.here hx rfl (hb hby own_d4_0) ?_
    refine stn1 _ ?_
    refine XS.dup Xn1.here hx rfl (hb hby own_d4_4) rfl rfl ?_
    refine XS.iconst Xn1.here hx rfl (hb hby own_d4_5) ?_
    refine XS.iconst Xn1.here hx rfl (hb hby own_d4_6) ?_
    refine stn3 _ ?_
    show Steps p.tables e below (Tn3.setTop (mkF m 9 #[.val (.ref r0), .val (.int p1)] [(.ref bn3), (.int 0), (.ref bn1), (.ref bn1)])) _
    refine XS.dup Xn3.here hx rfl (hb hby own_d4_9) rfl rfl ?_
    refine XS.iconst Xn3.here hx rfl (hb hby own_d4_10) ?_
    refine XS.aloadN Xn3.here hx rfl (hb hby own_d4_11) rfl rfl ?_
    refine stn6 _ ?_
    show Steps p.tables e below (Tn6.setTop (mkF m 15 #[.val (.ref r0), .val (.int p1)] [(.ref w_scaleFactors_r0), (.int 0), (.ref bn3), (.ref bn3), (.int 0), (.ref bn1), (.ref bn1)])) _
    refine XS.iloadN Xn6.here hx rfl (hb hby own_d4_15) rfl ?_
    refine Xn6.daload hx (j := p1) (v := (.double (f_w_scaleFactors_r0 p1.toNatClampNeg))) (by rw [en6]; exact Aro8.1) (State.isArrayOf_alike hZ.alike Aro8.2.1) Aro8.2.2 hi9 ha10 (g := (mkF m 16 #[.val (.ref r0), .val (.int p1)] [(.int p1), (.ref w_scaleFactors_r0), (.int 0), (.ref bn3), (.ref bn3), (.int 0), (.ref bn1), (.ref bn1)])) rfl rfl (hb hby own_d4_16) _ ?_
    refine sto13 _ ?_
    show Steps p.tables e below (To13.setTop (mkF m 18 #[.val (.ref r0), .val (.int p1)] [(.ref bn3), (.int 0), (.ref bn1), (.ref bn1)])) _
    refine sto19 _ ?_
    refine XS.dup Xo19.here hx rfl (hb hby own_d4_19) rfl rfl ?_
    refine XS.iconst Xo19.here hx rfl (hb hby own_d4_20) ?_
    refine XS.iconst Xo19.here hx rfl (hb hby own_d4_21) ?_
    refine stn22 _ ?_
    show Steps p.tables e below (Tn22.setTop (mkF m 24 #[.val (.ref r0), .val (.int p1)] [(.ref bn22), (.int 1), (.ref bn1), (.ref bn1)])) _
    refine XS.dup Xn22.here hx rfl (hb hby own_d4_24) rfl rfl ?_
    refine XS.iconst Xn22.here hx rfl (hb hby own_d4_25) ?_
    refine XS.aloadN Xn22.here hx rfl (hb hby own_d4_26) rfl rfl ?_
    refine stn27 _ ?_
    show Steps p.tables e below (Tn27.setTop (mkF m 30 #[.val (.ref r0), .val (.int p1)] [(.ref w_crossoverRates_r0), (.int 0), (.ref bn22), (.ref bn22), (.int 1), (.ref bn1), (.ref bn1)])) _
    refine XS.iloadN Xn27.here hx rfl (hb hby own_d4_30) rfl ?_
    refine Xn27.daload hx (j := p1) (v := (.double (f_w_crossoverRates_r0 p1.toNatClampNeg))) (by rw [en27]; exact Aro31.1) (State.isArrayOf_alike hZ.alike Aro31.2.1) Aro31.2.2 hi32 ha33 (g := (mkF m 31 #[.val (.ref r0), .val (.int p1)] [(.int p1), (.ref w_crossoverRates_r0), (.int 0), (.ref bn22), (.ref bn22), (.int 1), (.ref bn1), (.ref bn1)])) rfl rfl (hb hby own_d4_31) _ ?_
    refine sto36 _ ?_
    show Steps p.tables e below (To36.setTop (mkF m 33 #[.val (.ref r0), .val (.int p1)] [(.ref bn22), (.int 1), (.ref bn1), (.ref bn1)])) _
    refine sto42 _ ?_
    show Steps p.tables e below (To42.setTop (mkF m 34 #[.val (.ref r0), .val (.int p1)] [(.ref bn1)])) _
    jvm_step Xo42.here [Xo42.here.top, hx, (hb hby own_d4_34), Xo42.method', Bd.returns, Value.isRef, FieldType.isReference]
    first | (intro acts; rw [hr _ acts rfl rfl rfl]) | rw [hr _ _ rfl rfl rfl]
    exact Steps.refl _
  · show own_Q4 Z r0 p1 w_scaleFactors_r0 k_w_scaleFactors_r0 z_w_scaleFactors_r0 f_w_scaleFactors_r0 w_crossoverRates_r0 k_w_crossoverRates_r0 z_w_crossoverRates_r0 f_w_crossoverRates_r0 h0 n0 _ To42.heap _
    rw [eo42]
    exact ⟨bn1, kn1, bn3, kn3, bn22, kn22, rfl, Nfo42, ((((((((Keep.refl h0 []).ext En1).ext En3).wr Wo13 (Or.inr sz_bn3)).wr Wo19 (Or.inr sz_bn1)).ext En22).wr Wo36 (Or.inr sz_bn22)).wr Wo42 (Or.inr sz_bn1)), sz_bn1, sz_bn3, sz_bn22, ne15, ne38, (Ne.symm ne45), ((((((Exn1.ext En3).wr Wo13).wr Wo19).ext En22).wr Wo36).wr Wo42), Vwo42, ((((F20.wr Wo19).ext En22).wr Wo36).wr Wo42), ((((Vwo13.other Wo19 (Ne.symm ne15)).ext En22).other Wo36 (Ne.symm ne45)).other Wo42 (Ne.symm ne15)), (F43.wr Wo42), (Vwo36.other Wo42 (Ne.symm ne38))⟩
theorem own_pn2 : plainName "com/example/evoluta/evoluta/algorithms/de/SelfAdaptationParametersPinLaw" = true := by first | (simp [plainName, overriddenIn]; done) | decide +kernel
theorem own_d5_0 : decode method_2_code 0 = .ok (.aload_n 0, 1) := by decide +kernel
theorem own_d5_1 : decode method_2_code 1 = .ok (.ifnull 9, 3) := by decide +kernel
theorem own_d5_4 : decode method_2_code 4 = .ok (.aload_n 0, 1) := by decide +kernel
theorem own_d5_5 : decode method_2_code 5 = .ok (.arraylength, 1) := by decide +kernel
theorem own_d5_6 : decode method_2_code 6 = .ok (.iconst 2, 1) := by decide +kernel
theorem own_d5_7 : decode method_2_code 7 = .ok (.if_icmp .eq 5, 3) := by decide +kernel
theorem own_d5_12 : decode method_2_code 12 = .ok (.aload_n 0, 1) := by decide +kernel
theorem own_d5_13 : decode method_2_code 13 = .ok (.iconst 0, 1) := by decide +kernel
theorem own_d5_14 : decode method_2_code 14 = .ok (.aaload, 1) := by decide +kernel
theorem own_d5_15 : decode method_2_code 15 = .ok (.ifnull 9, 3) := by decide +kernel
theorem own_d5_18 : decode method_2_code 18 = .ok (.aload_n 0, 1) := by decide +kernel
theorem own_d5_19 : decode method_2_code 19 = .ok (.iconst 1, 1) := by decide +kernel
theorem own_d5_20 : decode method_2_code 20 = .ok (.aaload, 1) := by decide +kernel
theorem own_d5_21 : decode method_2_code 21 = .ok (.ifnonnull 5, 3) := by decide +kernel
theorem own_d5_26 : decode method_2_code 26 = .ok (.aload_n 0, 1) := by decide +kernel
theorem own_d5_27 : decode method_2_code 27 = .ok (.iconst 0, 1) := by decide +kernel
theorem own_d5_28 : decode method_2_code 28 = .ok (.aaload, 1) := by decide +kernel
theorem own_d5_29 : decode method_2_code 29 = .ok (.arraylength, 1) := by decide +kernel
theorem own_d5_30 : decode method_2_code 30 = .ok (.iconst 1, 1) := by decide +kernel
theorem own_d5_31 : decode method_2_code 31 = .ok (.if_icmp .ne 11, 3) := by decide +kernel
theorem own_d5_34 : decode method_2_code 34 = .ok (.aload_n 0, 1) := by decide +kernel
theorem own_d5_35 : decode method_2_code 35 = .ok (.iconst 1, 1) := by decide +kernel
theorem own_d5_36 : decode method_2_code 36 = .ok (.aaload, 1) := by decide +kernel
theorem own_d5_37 : decode method_2_code 37 = .ok (.arraylength, 1) := by decide +kernel
theorem own_d5_38 : decode method_2_code 38 = .ok (.iconst 1, 1) := by decide +kernel
theorem own_d5_39 : decode method_2_code 39 = .ok (.if_icmp .eq 5, 3) := by decide +kernel
theorem own_d5_44 : decode method_2_code 44 = .ok (.aload_n 0, 1) := by decide +kernel
theorem own_d5_45 : decode method_2_code 45 = .ok (.iconst 0, 1) := by decide +kernel
theorem own_d5_46 : decode method_2_code 46 = .ok (.aaload, 1) := by decide +kernel
theorem own_d5_47 : decode method_2_code 47 = .ok (.iconst 0, 1) := by decide +kernel
theorem own_d5_48 : decode method_2_code 48 = .ok (.daload, 1) := by decide +kernel
theorem own_d5_49 : decode method_2_code 49 = .ok (.dload_n 1, 1) := by decide +kernel
theorem own_d5_50 : decode method_2_code 50 = .ok (.dcmp .l, 1) := by decide +kernel
theorem own_d5_51 : decode method_2_code 51 = .ok (.ifCond .ne 17, 3) := by decide +kernel
theorem own_d5_54 : decode method_2_code 54 = .ok (.aload_n 0, 1) := by decide +kernel
theorem own_d5_55 : decode method_2_code 55 = .ok (.iconst 1, 1) := by decide +kernel
theorem own_d5_56 : decode method_2_code 56 = .ok (.aaload, 1) := by decide +kernel
theorem own_d5_57 : decode method_2_code 57 = .ok (.iconst 0, 1) := by decide +kernel
theorem own_d5_58 : decode method_2_code 58 = .ok (.daload, 1) := by decide +kernel
theorem own_d5_59 : decode method_2_code 59 = .ok (.dload_n 3, 1) := by decide +kernel
theorem own_d5_60 : decode method_2_code 60 = .ok (.dcmp .l, 1) := by decide +kernel
theorem own_d5_61 : decode method_2_code 61 = .ok (.ifCond .ne 7, 3) := by decide +kernel
theorem own_d5_64 : decode method_2_code 64 = .ok (.iconst 1, 1) := by decide +kernel
theorem own_d5_65 : decode method_2_code 65 = .ok (.goto 4, 3) := by decide +kernel
theorem own_d5_69 : decode method_2_code 69 = .ok (.ireturn, 1) := by decide +kernel
theorem own_ef5 (m : MethodId) (r0 : Addr) (d1 : UInt64) (d2 : UInt64) : entryFrame m #[(.ref r0), (.double d1), (.double d2)] 5 = mkF m 0 #[.val (.ref r0), .val (.double d1), .second, .val (.double d2), .second] [] := by first | (simp [entryFrame, mkF, argsToLocals, Value.category]; done) | rfl
def own_Q5 (Z : State) (r0 : Addr) (d1 : UInt64) (d2 : UInt64) (k_r0 : ClassId) (x_r0_0 : Addr) (x_r0_1 : Addr) (k_x_r0_0 : ClassId) (x_x_r0_0_0 : UInt64) (k_x_r0_1 : ClassId) (x_x_r0_1_0 : UInt64) (h0 : Heap) (n0 : Nat) (v : Option Value) (h : Heap) (L : List Loc) : Prop := v = some (.int 1) ∧ Fr n0 L ∧ h = h0
set_option maxRecDepth 65536 in
set_option maxHeartbeats 40000000 in
theorem own_rm5 (l : Launch) (Z : State) (a0 : Array Value) (hw : ∀ d ∈ tables_1, d.before a0 Z = true) (ws : List Jvm.Cond) (r0 : Addr) (d1 : UInt64) (d2 : UInt64) (k_r0 : ClassId) (x_r0_0 : Addr) (x_r0_1 : Addr) (k_x_r0_0 : ClassId) (x_x_r0_0_0 : UInt64) (k_x_r0_1 : ClassId) (x_x_r0_1_0 : UInt64) (h0 : Heap) (n0 : Nat) (Z0 : n0 ≤ h0.size) (V_r0 : Arv Z h0 r0 k_r0 (.array .double) (2 : Int32) [(.ref x_r0_0), (.ref x_r0_1)] .null) (V_x_r0_0 : Arv Z h0 x_r0_0 k_x_r0_0 .double (1 : Int32) [(.double x_x_r0_0_0)] (.double 0)) (V_x_r0_1 : Arv Z h0 x_r0_1 k_x_r0_1 .double (1 : Int32) [(.double x_x_r0_1_0)] (.double 0)) (hc51 : (cmpValue (FP.dcmp x_x_r0_0_0 d1) .l) = (0 : Int32)) (hc61 : (cmpValue (FP.dcmp x_x_r0_1_0 d2) .l) = (0 : Int32)) :
    MetFree l (⟨"com/example/evoluta/evoluta/algorithms/de/SelfAdaptationParametersPinLaw", "is", "([[DDD)Z"⟩ : MethodName) (head1 (Jvm.Cond.code (⟨"com/example/evoluta/evoluta/algorithms/de/SelfAdaptationParametersPinLaw", "is", "([[DDD)Z"⟩ : MethodName) method_2_code 5 (some .boolean) :: ws) ({ frames := 0, cells := 0, slots := 0, locals := 0 } : Room)) (fun a U => a = #[(.ref r0), (.double d1), (.double d2)] ∧ Z.Warmed39 U.vm ∧ U.heap = h0) (fun _ _ _ _ _ => True) (fun _ U o U' => ∃ v L, o = .returned v ∧ own_Q5 Z r0 d1 d2 k_r0 x_r0_0 x_r0_1 k_x_r0_0 x_x_r0_0_0 k_x_r0_1 x_x_r0_1_0 h0 n0 v U'.heap L ∧ FrameEnd U o U' L ({ frames := 0, cells := 0, slots := 0, locals := 0 } : Room).cells ({ frames := 0, cells := 0, slots := 0, locals := 0 } : Room).slots) := by
  refine MetFree.of_bodySF (plainFor_of_name own_pn2) hisR ?_
  intro p e s m args below meth c s₁ Bd hml0 hP hK
  obtain ⟨rfl, hZ, hh⟩ := hP
  have hx := Bd.exec
  have hby := Bd.bytes
  have hml : c.maxLocals = 5 := hml0
  have hown : s.vm.findClass "com/example/evoluta/evoluta/algorithms/de/SelfAdaptationParametersPinLaw" = some m.cls := findClass_of_methodNamed Bd.named
  have hnm := (name_of_methodNamed Bd.named Bd.method).1
  have X0 : Stand p l e ({ frames := 0, cells := 0, slots := 0, locals := 0 } : Room) s m #[(.ref r0), (.double d1), (.double d2)] below meth c s₁ [] 0 0 := Stand.of_body Bd
  have e0 : s₁.heap = h0 := by rw [← hh, Bd.state]; rfl
  have N0 := Fr.nil n0
  have Zr : h0.size ≤ h0.size := Nat.le_refl _
  have pre0 : ∀ t, Steps p.tables e below (s₁.setTop (mkF m 0 #[.val (.ref r0), .val (.double d1), .second, .val (.double d2), .second] [])) t → Steps p.tables e below (s₁.setTop (entryFrame m #[(.ref r0), (.double d1), (.double d2)] 5)) t := fun t k => castTop (own_ef5 m r0 d1 d2) k
  obtain ⟨clo1, Aro1, qo1, So1, No1, Ho1, Go1⟩ := id V_r0
  have hi2 := inb_of (j := (0 : Int32)) So1 ⟨by decide, by decide⟩
  have ha3 : _ = some (Value.ref x_r0_0) := Ho1.at hi2 rfl
  have hi4 := inb_of (j := (1 : Int32)) So1 ⟨by decide, by decide⟩
  have ha5 : _ = some (Value.ref x_r0_1) := Ho1.at hi4 rfl
  obtain ⟨clo6, Aro6, qo6, So6, No6, Ho6, Go6⟩ := id V_x_r0_0
  obtain ⟨clo7, Aro7, qo7, So7, No7, Ho7, Go7⟩ := id V_x_r0_1
  have hi8 := inb_of (j := (0 : Int32)) So6 ⟨by decide, by decide⟩
  have ha9 : _ = some (Value.double x_x_r0_0_0) := Ho6.at hi8 rfl
  have hi10 := inb_of (j := (0 : Int32)) So7 ⟨by decide, by decide⟩
  have ha11 : _ = some (Value.double x_x_r0_1_0) := Ho7.at hi10 rfl
  obtain ⟨fs, hr, hrun, hended, hW, hsame⟩ := X0.leave (v := some (.int 1)) (fun h => by rw [Bd.returns] at h; cases h)
  refine ⟨_, _, pre0 _ (?_), hrun, hended, _, _, rfl, ?_, ⟨_, rfl⟩, hW, hsame.mono (by decide) (by decide)⟩
  · show Steps p.tables e below (s₁.setTop (mkF m 0 #[.val (.ref r0), .val (.double d1), .second, .val (.double d2), .second] [])) _
    refine XS.aloadN X0.here hx rfl (hb hby own_d5_0) rfl rfl ?_
    refine XS.ifnullNo X0.here hx rfl (hb hby own_d5_1) rfl ?_
    refine XS.aloadN X0.here hx rfl (hb hby own_d5_4) rfl rfl ?_
    refine X0.arraylength hx (by rw [e0]; exact Aro1.1) (State.isArrayOf_alike hZ.alike Aro1.2.1) (g := (mkF m 5 #[.val (.ref r0), .val (.double d1), .second, .val (.double d2), .second] [(.ref r0)])) rfl rfl (hb hby own_d5_5) _ ?_
    rw [len_of So1 No1]
    show Steps p.tables e below (s₁.setTop (mkF m 6 #[.val (.ref r0), .val (.double d1), .second, .val (.double d2), .second] [(.int 2)])) _
    refine XS.iconst X0.here hx rfl (hb hby own_d5_6) ?_
    refine XS.icmpYes X0.here hx rfl (pc0 := 7) (pc' := 12) rfl (hb hby own_d5_7) rfl (XT.ii_eq_t (by decide : (2 : Int32) = (2 : Int32))) (by decide) (by decide) ?_
    refine XS.aloadN X0.here hx rfl (hb hby own_d5_12) rfl rfl ?_
    refine XS.iconst X0.here hx rfl (hb hby own_d5_13) ?_
    refine X0.aaload hx (j := (0 : Int32)) (v := (.ref x_r0_0)) (by rw [e0]; exact Aro1.1) (State.isArrayOf_alike hZ.alike Aro1.2.1) rfl Aro1.2.2 hi2 ha3 (g := (mkF m 14 #[.val (.ref r0), .val (.double d1), .second, .val (.double d2), .second] [(.int 0), (.ref r0)])) rfl rfl (hb hby own_d5_14) _ ?_
    show Steps p.tables e below (s₁.setTop (mkF m 15 #[.val (.ref r0), .val (.double d1), .second, .val (.double d2), .second] [(.ref x_r0_0)])) _
    refine XS.ifnullNo X0.here hx rfl (hb hby own_d5_15) rfl ?_
    refine XS.aloadN X0.here hx rfl (hb hby own_d5_18) rfl rfl ?_
    refine XS.iconst X0.here hx rfl (hb hby own_d5_19) ?_
    refine X0.aaload hx (j := (1 : Int32)) (v := (.ref x_r0_1)) (by rw [e0]; exact Aro1.1) (State.isArrayOf_alike hZ.alike Aro1.2.1) rfl Aro1.2.2 hi4 ha5 (g := (mkF m 20 #[.val (.ref r0), .val (.double d1), .second, .val (.double d2), .second] [(.int 1), (.ref r0)])) rfl rfl (hb hby own_d5_20) _ ?_
    show Steps p.tables e below (s₁.setTop (mkF m 21 #[.val (.ref r0), .val (.double d1), .second, .val (.double d2), .second] [(.ref x_r0_1)])) _
    refine XT.ifnonnullYes X0.here hx rfl (pc0 := 21) (pc' := 26) rfl (hb hby own_d5_21) rfl (by decide) (by decide) ?_
    refine XS.aloadN X0.here hx rfl (hb hby own_d5_26) rfl rfl ?_
    refine XS.iconst X0.here hx rfl (hb hby own_d5_27) ?_
    refine X0.aaload hx (j := (0 : Int32)) (v := (.ref x_r0_0)) (by rw [e0]; exact Aro1.1) (State.isArrayOf_alike hZ.alike Aro1.2.1) rfl Aro1.2.2 hi2 ha3 (g := (mkF m 28 #[.val (.ref r0), .val (.double d1), .second, .val (.double d2), .second] [(.int 0), (.ref r0)])) rfl rfl (hb hby own_d5_28) _ ?_
    show Steps p.tables e below (s₁.setTop (mkF m 29 #[.val (.ref r0), .val (.double d1), .second, .val (.double d2), .second] [(.ref x_r0_0)])) _
    refine X0.arraylength hx (by rw [e0]; exact Aro6.1) (State.isArrayOf_alike hZ.alike Aro6.2.1) (g := (mkF m 29 #[.val (.ref r0), .val (.double d1), .second, .val (.double d2), .second] [(.ref x_r0_0)])) rfl rfl (hb hby own_d5_29) _ ?_
    rw [len_of So6 No6]
    show Steps p.tables e below (s₁.setTop (mkF m 30 #[.val (.ref r0), .val (.double d1), .second, .val (.double d2), .second] [(.int 1)])) _
    refine XS.iconst X0.here hx rfl (hb hby own_d5_30) ?_
    refine XS.icmpNo X0.here hx rfl (hb hby own_d5_31) rfl (XT.ii_ne_f (by decide : (1 : Int32) = (1 : Int32))) ?_
    refine XS.aloadN X0.here hx rfl (hb hby own_d5_34) rfl rfl ?_
    refine XS.iconst X0.here hx rfl (hb hby own_d5_35) ?_
    refine X0.aaload hx (j := (1 : Int32)) (v := (.ref x_r0_1)) (by rw [e0]; exact Aro1.1) (State.isArrayOf_alike hZ.alike Aro1.2.1) rfl Aro1.2.2 hi4 ha5 (g := (mkF m 36 #[.val (.ref r0), .val (.double d1), .second, .val (.double d2), .second] [(.int 1), (.ref r0)])) rfl rfl (hb hby own_d5_36) _ ?_
    show Steps p.tables e below (s₁.setTop (mkF m 37 #[.val (.ref r0), .val (.double d1), .second, .val (.double d2), .second] [(.ref x_r0_1)])) _
    refine X0.arraylength hx (by rw [e0]; exact Aro7.1) (State.isArrayOf_alike hZ.alike Aro7.2.1) (g := (mkF m 37 #[.val (.ref r0), .val (.double d1), .second, .val (.double d2), .second] [(.ref x_r0_1)])) rfl rfl (hb hby own_d5_37) _ ?_
    rw [len_of So7 No7]
    show Steps p.tables e below (s₁.setTop (mkF m 38 #[.val (.ref r0), .val (.double d1), .second, .val (.double d2), .second] [(.int 1)])) _
    refine XS.iconst X0.here hx rfl (hb hby own_d5_38) ?_
    refine XS.icmpYes X0.here hx rfl (pc0 := 39) (pc' := 44) rfl (hb hby own_d5_39) rfl (XT.ii_eq_t (by decide : (1 : Int32) = (1 : Int32))) (by decide) (by decide) ?_
    refine XS.aloadN X0.here hx rfl (hb hby own_d5_44) rfl rfl ?_
    refine XS.iconst X0.here hx rfl (hb hby own_d5_45) ?_
    refine X0.aaload hx (j := (0 : Int32)) (v := (.ref x_r0_0)) (by rw [e0]; exact Aro1.1) (State.isArrayOf_alike hZ.alike Aro1.2.1) rfl Aro1.2.2 hi2 ha3 (g := (mkF m 46 #[.val (.ref r0), .val (.double d1), .second, .val (.double d2), .second] [(.int 0), (.ref r0)])) rfl rfl (hb hby own_d5_46) _ ?_
    show Steps p.tables e below (s₁.setTop (mkF m 47 #[.val (.ref r0), .val (.double d1), .second, .val (.double d2), .second] [(.ref x_r0_0)])) _
    refine XS.iconst X0.here hx rfl (hb hby own_d5_47) ?_
    refine X0.daload hx (j := (0 : Int32)) (v := (.double x_x_r0_0_0)) (by rw [e0]; exact Aro6.1) (State.isArrayOf_alike hZ.alike Aro6.2.1) Aro6.2.2 hi8 ha9 (g := (mkF m 48 #[.val (.ref r0), .val (.double d1), .second, .val (.double d2), .second] [(.int 0), (.ref x_r0_0)])) rfl rfl (hb hby own_d5_48) _ ?_
    refine XS.dloadN X0.here hx rfl (hb hby own_d5_49) rfl ?_
    refine XS.dcmpS X0.here hx rfl (hb hby own_d5_50) rfl rfl ?_
    refine XS.ifNo X0.here hx rfl (hb hby own_d5_51) rfl (XT.i0_ne_f hc51) ?_
    refine XS.aloadN X0.here hx rfl (hb hby own_d5_54) rfl rfl ?_
    refine XS.iconst X0.here hx rfl (hb hby own_d5_55) ?_
    refine X0.aaload hx (j := (1 : Int32)) (v := (.ref x_r0_1)) (by rw [e0]; exact Aro1.1) (State.isArrayOf_alike hZ.alike Aro1.2.1) rfl Aro1.2.2 hi4 ha5 (g := (mkF m 56 #[.val (.ref r0), .val (.double d1), .second, .val (.double d2), .second] [(.int 1), (.ref r0)])) rfl rfl (hb hby own_d5_56) _ ?_
    show Steps p.tables e below (s₁.setTop (mkF m 57 #[.val (.ref r0), .val (.double d1), .second, .val (.double d2), .second] [(.ref x_r0_1)])) _
    refine XS.iconst X0.here hx rfl (hb hby own_d5_57) ?_
    refine X0.daload hx (j := (0 : Int32)) (v := (.double x_x_r0_1_0)) (by rw [e0]; exact Aro7.1) (State.isArrayOf_alike hZ.alike Aro7.2.1) Aro7.2.2 hi10 ha11 (g := (mkF m 58 #[.val (.ref r0), .val (.double d1), .second, .val (.double d2), .second] [(.int 0), (.ref x_r0_1)])) rfl rfl (hb hby own_d5_58) _ ?_
    refine XS.dloadN X0.here hx rfl (hb hby own_d5_59) rfl ?_
    refine XS.dcmpS X0.here hx rfl (hb hby own_d5_60) rfl rfl ?_
    refine XS.ifNo X0.here hx rfl (hb hby own_d5_61) rfl (XT.i0_ne_f hc61) ?_
    refine XS.iconst X0.here hx rfl (hb hby own_d5_64) ?_
    refine XS.goto X0.here hx rfl (pc0 := 65) (pc' := 69) rfl (hb hby own_d5_65) (by decide) (by decide) ?_
    show Steps p.tables e below (s₁.setTop (mkF m 69 #[.val (.ref r0), .val (.double d1), .second, .val (.double d2), .second] [(.int 1)])) _
    exact retN X0 hx (t := .boolean) Bd.returns (by simp) (hb hby own_d5_69) hr
  · show own_Q5 Z r0 d1 d2 k_r0 x_r0_0 x_r0_1 k_x_r0_0 x_x_r0_0_0 k_x_r0_1 x_x_r0_1_0 h0 n0 _ s₁.heap _
    rw [e0]
    exact ⟨rfl, N0, rfl⟩
theorem own_d6_0 : decode prog_8_method_8_code 0 = .ok (.aload_n 0, 1) := by decide +kernel
theorem own_d6_1 : decode prog_8_method_8_code 1 = .ok (.getfield 33, 3) := by decide +kernel
theorem own_d6_4 : decode prog_8_method_8_code 4 = .ok (.iload_n 1, 1) := by decide +kernel
theorem own_d6_5 : decode prog_8_method_8_code 5 = .ok (.aload_n 2, 1) := by decide +kernel
theorem own_d6_6 : decode prog_8_method_8_code 6 = .ok (.iconst 0, 1) := by decide +kernel
theorem own_d6_7 : decode prog_8_method_8_code 7 = .ok (.aaload, 1) := by decide +kernel
theorem own_d6_8 : decode prog_8_method_8_code 8 = .ok (.iconst 0, 1) := by decide +kernel
theorem own_d6_9 : decode prog_8_method_8_code 9 = .ok (.daload, 1) := by decide +kernel
theorem own_d6_10 : decode prog_8_method_8_code 10 = .ok (.dastore, 1) := by decide +kernel
theorem own_d6_11 : decode prog_8_method_8_code 11 = .ok (.aload_n 0, 1) := by decide +kernel
theorem own_d6_12 : decode prog_8_method_8_code 12 = .ok (.getfield 39, 3) := by decide +kernel
theorem own_d6_15 : decode prog_8_method_8_code 15 = .ok (.iload_n 1, 1) := by decide +kernel
theorem own_d6_16 : decode prog_8_method_8_code 16 = .ok (.aload_n 2, 1) := by decide +kernel
theorem own_d6_17 : decode prog_8_method_8_code 17 = .ok (.iconst 1, 1) := by decide +kernel
theorem own_d6_18 : decode prog_8_method_8_code 18 = .ok (.aaload, 1) := by decide +kernel
theorem own_d6_19 : decode prog_8_method_8_code 19 = .ok (.iconst 0, 1) := by decide +kernel
theorem own_d6_20 : decode prog_8_method_8_code 20 = .ok (.daload, 1) := by decide +kernel
theorem own_d6_21 : decode prog_8_method_8_code 21 = .ok (.dastore, 1) := by decide +kernel
theorem own_d6_22 : decode prog_8_method_8_code 22 = .ok (.return_, 1) := by decide +kernel
theorem own_ef6 (m : MethodId) (r0 : Addr) (p1 : Int32) (r2 : Addr) : entryFrame m #[(.ref r0), (.int p1), (.ref r2)] 3 = mkF m 0 #[.val (.ref r0), .val (.int p1), .val (.ref r2)] [] := by first | (simp [entryFrame, mkF, argsToLocals, Value.category]; done) | rfl
def own_Q6 (Z : State) (r0 : Addr) (p1 : Int32) (r2 : Addr) (w_scaleFactors_r0 : Addr) (k_r2 : ClassId) (x_r2_0 : Addr) (x_r2_1 : Addr) (k_x_r2_0 : ClassId) (x_x_r2_0_0 : UInt64) (k_w_scaleFactors_r0 : ClassId) (z_w_scaleFactors_r0 : Int32) (f_w_scaleFactors_r0 : Nat → UInt64) (w_crossoverRates_r0 : Addr) (k_x_r2_1 : ClassId) (x_x_r2_1_0 : UInt64) (k_w_crossoverRates_r0 : ClassId) (z_w_crossoverRates_r0 : Int32) (f_w_crossoverRates_r0 : Nat → UInt64) (h0 : Heap) (n0 : Nat) (v : Option Value) (h : Heap) (L : List Loc) : Prop := v = none ∧ Fr n0 L ∧ Keep h0 h [w_scaleFactors_r0, w_crossoverRates_r0] ∧ Arv Z h w_scaleFactors_r0 k_w_scaleFactors_r0 .double z_w_scaleFactors_r0 (own_F z_w_scaleFactors_r0 (own_upd f_w_scaleFactors_r0 p1 x_x_r2_0_0)) (.double 0) ∧ Arv Z h w_crossoverRates_r0 k_w_crossoverRates_r0 .double z_w_crossoverRates_r0 (own_F z_w_crossoverRates_r0 (own_upd f_w_crossoverRates_r0 p1 x_x_r2_1_0)) (.double 0)
set_option maxRecDepth 65536 in
set_option maxHeartbeats 40000000 in
theorem own_rm6 (l : Launch) (Z : State) (a0 : Array Value) (hw : ∀ d ∈ tables_1, d.before a0 Z = true) (ws : List Jvm.Cond) (r0 : Addr) (p1 : Int32) (r2 : Addr) (w_scaleFactors_r0 : Addr) (k_r2 : ClassId) (x_r2_0 : Addr) (x_r2_1 : Addr) (k_x_r2_0 : ClassId) (x_x_r2_0_0 : UInt64) (k_w_scaleFactors_r0 : ClassId) (z_w_scaleFactors_r0 : Int32) (f_w_scaleFactors_r0 : Nat → UInt64) (w_crossoverRates_r0 : Addr) (k_x_r2_1 : ClassId) (x_x_r2_1_0 : UInt64) (k_w_crossoverRates_r0 : ClassId) (z_w_crossoverRates_r0 : Int32) (f_w_crossoverRates_r0 : Nat → UInt64) (h0 : Heap) (n0 : Nat) (Z0 : n0 ≤ h0.size) (F_scaleFactors_r0 : Fld Z h0 r0 "com/example/evoluta/evoluta/algorithms/de/Jde$SelfAdaptation" "scaleFactors" "[D" (.ref w_scaleFactors_r0)) (V_r2 : Arv Z h0 r2 k_r2 (.array .double) (2 : Int32) [(.ref x_r2_0), (.ref x_r2_1)] .null) (V_x_r2_0 : Arv Z h0 x_r2_0 k_x_r2_0 .double (1 : Int32) [(.double x_x_r2_0_0)] (.double 0)) (V_w_scaleFactors_r0 : Arv Z h0 w_scaleFactors_r0 k_w_scaleFactors_r0 .double z_w_scaleFactors_r0 (own_F z_w_scaleFactors_r0 f_w_scaleFactors_r0) (.double 0)) (g_w_scaleFactors_r0 : n0 ≤ w_scaleFactors_r0) (F_crossoverRates_r0 : Fld Z h0 r0 "com/example/evoluta/evoluta/algorithms/de/Jde$SelfAdaptation" "crossoverRates" "[D" (.ref w_crossoverRates_r0)) (V_x_r2_1 : Arv Z h0 x_r2_1 k_x_r2_1 .double (1 : Int32) [(.double x_x_r2_1_0)] (.double 0)) (V_w_crossoverRates_r0 : Arv Z h0 w_crossoverRates_r0 k_w_crossoverRates_r0 .double z_w_crossoverRates_r0 (own_F z_w_crossoverRates_r0 f_w_crossoverRates_r0) (.double 0)) (g_w_crossoverRates_r0 : n0 ≤ w_crossoverRates_r0) (in10 : ¬ (p1 < 0) ∧ p1 < z_w_scaleFactors_r0) (ne_r0_w_scaleFactors_r0 : r0 ≠ w_scaleFactors_r0) (ne_r2_w_scaleFactors_r0 : r2 ≠ w_scaleFactors_r0) (ne_w_scaleFactors_r0_x_r2_1 : w_scaleFactors_r0 ≠ x_r2_1) (ne_w_crossoverRates_r0_w_scaleFactors_r0 : w_crossoverRates_r0 ≠ w_scaleFactors_r0) (in21 : ¬ (p1 < 0) ∧ p1 < z_w_crossoverRates_r0) :
    MetFree l (⟨"com/example/evoluta/evoluta/algorithms/de/Jde$SelfAdaptation", "setParameters", "(I[[D)V"⟩ : MethodName) (head1 (Jvm.Cond.code (⟨"com/example/evoluta/evoluta/algorithms/de/Jde$SelfAdaptation", "setParameters", "(I[[D)V"⟩ : MethodName) prog_8_method_8_code 3 none :: ws) ({ frames := 0, cells := 0, slots := 0, locals := 0 } : Room)) (fun a U => a = #[(.ref r0), (.int p1), (.ref r2)] ∧ Z.Warmed39 U.vm ∧ U.heap = h0) (fun _ _ _ _ _ => True) (fun _ U o U' => ∃ v L, o = .returned v ∧ own_Q6 Z r0 p1 r2 w_scaleFactors_r0 k_r2 x_r2_0 x_r2_1 k_x_r2_0 x_x_r2_0_0 k_w_scaleFactors_r0 z_w_scaleFactors_r0 f_w_scaleFactors_r0 w_crossoverRates_r0 k_x_r2_1 x_x_r2_1_0 k_w_crossoverRates_r0 z_w_crossoverRates_r0 f_w_crossoverRates_r0 h0 n0 v U'.heap L ∧ FrameEnd U o U' L ({ frames := 0, cells := 0, slots := 0, locals := 0 } : Room).cells ({ frames := 0, cells := 0, slots := 0, locals := 0 } : Room).slots) := by
  refine MetFree.of_bodySF (plainFor_of_name own_pn1) hisR ?_
  intro p e s m args below meth c s₁ Bd hml0 hP hK
  obtain ⟨rfl, hZ, hh⟩ := hP
  have hx := Bd.exec
  have hby := Bd.bytes
  have hml : c.maxLocals = 3 := hml0
  have hown : s.vm.findClass "com/example/evoluta/evoluta/algorithms/de/Jde$SelfAdaptation" = some m.cls := findClass_of_methodNamed Bd.named
  have hnm := (name_of_methodNamed Bd.named Bd.method).1
  have X0 : Stand p l e ({ frames := 0, cells := 0, slots := 0, locals := 0 } : Room) s m #[(.ref r0), (.int p1), (.ref r2)] below meth c s₁ [] 0 0 := Stand.of_body Bd
  have e0 : s₁.heap = h0 := by rw [← hh, Bd.state]; rfl
  have N0 := Fr.nil n0
  have Zr : h0.size ≤ h0.size := Nat.le_refl _
  have pre0 : ∀ t, Steps p.tables e below (s₁.setTop (mkF m 0 #[.val (.ref r0), .val (.int p1), .val (.ref r2)] [])) t → Steps p.tables e below (s₁.setTop (entryFrame m #[(.ref r0), (.int p1), (.ref r2)] 3)) t := fun t k => castTop (own_ef6 m r0 p1 r2) k
  obtain ⟨Tn1, Xn1, en1, stn1⟩ := getF X0 hx hZ hown (host := "") (Or.inl (own_W hw 11 rfl)) Via.refl e0 F_scaleFactors_r0 (g := (mkF m 1 #[.val (.ref r0), .val (.int p1), .val (.ref r2)] [(.ref r0)])) rfl rfl (hb hby own_d6_1)
  obtain ⟨clo2, Aro2, qo2, So2, No2, Ho2, Go2⟩ := id V_r2
  have hi3 := inb_of (j := (0 : Int32)) So2 ⟨by decide, by decide⟩
  have ha4 : _ = some (Value.ref x_r2_0) := Ho2.at hi3 rfl
  obtain ⟨clo5, Aro5, qo5, So5, No5, Ho5, Go5⟩ := id V_x_r2_0
  have hi6 := inb_of (j := (0 : Int32)) So5 ⟨by decide, by decide⟩
  have ha7 : _ = some (Value.double x_x_r2_0_0) := Ho5.at hi6 rfl
  obtain ⟨clo8, Aro8, qo8, So8, No8, Ho8, Go8⟩ := id V_w_scaleFactors_r0
  have hi10 := inb_of (j := p1) So8 in10
  obtain ⟨To9, ho9, Xo9, eo9, Wo9, sto9⟩ := stD Xn1 hx hZ en1 Aro8 (j := p1) hi10 (g := (mkF m 10 #[.val (.ref r0), .val (.int p1), .val (.ref r2)] [(.double x_x_r2_0_0), (.int p1), (.ref w_scaleFactors_r0)])) rfl rfl (hb hby own_d6_10)
  have Vwo9 : Arv Z ho9 w_scaleFactors_r0 k_w_scaleFactors_r0 .double z_w_scaleFactors_r0 (own_F z_w_scaleFactors_r0 (own_upd f_w_scaleFactors_r0 p1 x_x_r2_0_0)) (.double 0) := own_setS (Arv.set Aro8 qo8 So8 No8 Ho8 Go8 rfl Wo9 _ rfl (own_ltL So8 hi10))
  have sz11 : h0.size ≤ ho9.size := Nat.le_trans Zr (Nat.le_of_eq Wo9.size.symm)
  have Nfo9 := Fr.snoc Xo9 N0 g_w_scaleFactors_r0
  have F12 := (F_crossoverRates_r0.other Wo9 (Or.inl ne_r0_w_scaleFactors_r0))
  obtain ⟨Tn13, Xn13, en13, stn13⟩ := getF Xo9 hx hZ hown (host := "") (Or.inl (own_W hw 13 rfl)) Via.refl eo9 F12 (g := (mkF m 12 #[.val (.ref r0), .val (.int p1), .val (.ref r2)] [(.ref r0)])) rfl rfl (hb hby own_d6_12)
  have F14 := (V_r2.other Wo9 ne_r2_w_scaleFactors_r0)
  obtain ⟨clo15, Aro15, qo15, So15, No15, Ho15, Go15⟩ := id F14
  have hi16 := inb_of (j := (1 : Int32)) So15 ⟨by decide, by decide⟩
  have ha17 : _ = some (Value.ref x_r2_1) := Ho15.at hi16 rfl
  have F18 := (V_x_r2_1.other Wo9 (Ne.symm ne_w_scaleFactors_r0_x_r2_1))
  obtain ⟨clo19, Aro19, qo19, So19, No19, Ho19, Go19⟩ := id F18
  have hi20 := inb_of (j := (0 : Int32)) So19 ⟨by decide, by decide⟩
  have ha21 : _ = some (Value.double x_x_r2_1_0) := Ho19.at hi20 rfl
  have F22 := (V_w_crossoverRates_r0.other Wo9 ne_w_crossoverRates_r0_w_scaleFactors_r0)
  obtain ⟨clo23, Aro23, qo23, So23, No23, Ho23, Go23⟩ := id F22
  have hi25 := inb_of (j := p1) So23 in21
  obtain ⟨To24, ho24, Xo24, eo24, Wo24, sto24⟩ := stD Xn13 hx hZ en13 Aro23 (j := p1) hi25 (g := (mkF m 21 #[.val (.ref r0), .val (.int p1), .val (.ref r2)] [(.double x_x_r2_1_0), (.int p1), (.ref w_crossoverRates_r0)])) rfl rfl (hb hby own_d6_21)
  have Vwo24 : Arv Z ho24 w_crossoverRates_r0 k_w_crossoverRates_r0 .double z_w_crossoverRates_r0 (own_F z_w_crossoverRates_r0 (own_upd f_w_crossoverRates_r0 p1 x_x_r2_1_0)) (.double 0) := own_setS (Arv.set Aro23 qo23 So23 No23 Ho23 Go23 rfl Wo24 _ rfl (own_ltL So23 hi25))
  have sz26 : h0.size ≤ ho24.size := Nat.le_trans sz11 (Nat.le_of_eq Wo24.size.symm)
  have Nfo24 := Fr.snoc Xo24 Nfo9 g_w_crossoverRates_r0
  obtain ⟨fs, hr, hrun, hended, hW, hsame⟩ := Xo24.leave (v := none) (fun _ => rfl)
  refine ⟨_, _, pre0 _ (?_), hrun, hended, _, _, rfl, ?_, ⟨_, rfl⟩, hW, hsame.mono (by decide) (by decide)⟩
  · show Steps p.tables e below (s₁.setTop (mkF m 0 #[.val (.ref r0), .val (.int p1), .val (.ref r2)] [])) _
    refine XS.aloadN X0.here hx rfl (hb hby own_d6_0) rfl rfl ?_
    refine stn1 _ ?_
    refine XS.iloadN Xn1.here hx rfl (hb hby own_d6_4) rfl ?_
    refine XS.aloadN Xn1.here hx rfl (hb hby own_d6_5) rfl rfl ?_
    refine XS.iconst Xn1.here hx rfl (hb hby own_d6_6) ?_
    refine Xn1.aaload hx (j := (0 : Int32)) (v := (.ref x_r2_0)) (by rw [en1]; exact Aro2.1) (State.isArrayOf_alike hZ.alike Aro2.2.1) rfl Aro2.2.2 hi3 ha4 (g := (mkF m 7 #[.val (.ref r0), .val (.int p1), .val (.ref r2)] [(.int 0), (.ref r2), (.int p1), (.ref w_scaleFactors_r0)])) rfl rfl (hb hby own_d6_7) _ ?_
    show Steps p.tables e below (Tn1.setTop (mkF m 8 #[.val (.ref r0), .val (.int p1), .val (.ref r2)] [(.ref x_r2_0), (.int p1), (.ref w_scaleFactors_r0)])) _
    refine XS.iconst Xn1.here hx rfl (hb hby own_d6_8) ?_
    refine Xn1.daload hx (j := (0 : Int32)) (v := (.double x_x_r2_0_0)) (by rw [en1]; exact Aro5.1) (State.isArrayOf_alike hZ.alike Aro5.2.1) Aro5.2.2 hi6 ha7 (g := (mkF m 9 #[.val (.ref r0), .val (.int p1), .val (.ref r2)] [(.int 0), (.ref x_r2_0), (.int p1), (.ref w_scaleFactors_r0)])) rfl rfl (hb hby own_d6_9) _ ?_
    refine sto9 _ ?_
    show Steps p.tables e below (To9.setTop (mkF m 11 #[.val (.ref r0), .val (.int p1), .val (.ref r2)] [])) _
    refine XS.aloadN Xo9.here hx rfl (hb hby own_d6_11) rfl rfl ?_
    refine stn13 _ ?_
    refine XS.iloadN Xn13.here hx rfl (hb hby own_d6_15) rfl ?_
    refine XS.aloadN Xn13.here hx rfl (hb hby own_d6_16) rfl rfl ?_
    refine XS.iconst Xn13.here hx rfl (hb hby own_d6_17) ?_
    refine Xn13.aaload hx (j := (1 : Int32)) (v := (.ref x_r2_1)) (by rw [en13]; exact Aro15.1) (State.isArrayOf_alike hZ.alike Aro15.2.1) rfl Aro15.2.2 hi16 ha17 (g := (mkF m 18 #[.val (.ref r0), .val (.int p1), .val (.ref r2)] [(.int 1), (.ref r2), (.int p1), (.ref w_crossoverRates_r0)])) rfl rfl (hb hby own_d6_18) _ ?_
    show Steps p.tables e below (Tn13.setTop (mkF m 19 #[.val (.ref r0), .val (.int p1), .val (.ref r2)] [(.ref x_r2_1), (.int p1), (.ref w_crossoverRates_r0)])) _
    refine XS.iconst Xn13.here hx rfl (hb hby own_d6_19) ?_
    refine Xn13.daload hx (j := (0 : Int32)) (v := (.double x_x_r2_1_0)) (by rw [en13]; exact Aro19.1) (State.isArrayOf_alike hZ.alike Aro19.2.1) Aro19.2.2 hi20 ha21 (g := (mkF m 20 #[.val (.ref r0), .val (.int p1), .val (.ref r2)] [(.int 0), (.ref x_r2_1), (.int p1), (.ref w_crossoverRates_r0)])) rfl rfl (hb hby own_d6_20) _ ?_
    refine sto24 _ ?_
    show Steps p.tables e below (To24.setTop (mkF m 22 #[.val (.ref r0), .val (.int p1), .val (.ref r2)] [])) _
    exact Xo24.returnOut hx Bd.returns (hb hby own_d6_22) hr
  · show own_Q6 Z r0 p1 r2 w_scaleFactors_r0 k_r2 x_r2_0 x_r2_1 k_x_r2_0 x_x_r2_0_0 k_w_scaleFactors_r0 z_w_scaleFactors_r0 f_w_scaleFactors_r0 w_crossoverRates_r0 k_x_r2_1 x_x_r2_1_0 k_w_crossoverRates_r0 z_w_crossoverRates_r0 f_w_crossoverRates_r0 h0 n0 _ To24.heap _
    rw [eo24]
    exact ⟨rfl, Nfo24, (((Keep.refl h0 [w_scaleFactors_r0, w_crossoverRates_r0]).wr Wo9 (Or.inl (List.mem_of_getElem? (i := 0) rfl))).wr Wo24 (Or.inl (List.mem_of_getElem? (i := 1) rfl))), (Vwo9.other Wo24 (Ne.symm ne_w_crossoverRates_r0_w_scaleFactors_r0)), Vwo24⟩
theorem own_d7_0 : decode prog_8_method_6_code 0 = .ok (.aload_n 0, 1) := by decide +kernel
theorem own_d7_1 : decode prog_8_method_6_code 1 = .ok (.getfield 33, 3) := by decide +kernel
theorem own_d7_4 : decode prog_8_method_6_code 4 = .ok (.iload_n 1, 1) := by decide +kernel
theorem own_d7_5 : decode prog_8_method_6_code 5 = .ok (.aload_n 0, 1) := by decide +kernel
theorem own_d7_6 : decode prog_8_method_6_code 6 = .ok (.getfield 52, 3) := by decide +kernel
theorem own_d7_9 : decode prog_8_method_6_code 9 = .ok (.iload_n 1, 1) := by decide +kernel
theorem own_d7_10 : decode prog_8_method_6_code 10 = .ok (.daload, 1) := by decide +kernel
theorem own_d7_11 : decode prog_8_method_6_code 11 = .ok (.dastore, 1) := by decide +kernel
theorem own_d7_12 : decode prog_8_method_6_code 12 = .ok (.aload_n 0, 1) := by decide +kernel
theorem own_d7_13 : decode prog_8_method_6_code 13 = .ok (.getfield 39, 3) := by decide +kernel
theorem own_d7_16 : decode prog_8_method_6_code 16 = .ok (.iload_n 1, 1) := by decide +kernel
theorem own_d7_17 : decode prog_8_method_6_code 17 = .ok (.aload_n 0, 1) := by decide +kernel
theorem own_d7_18 : decode prog_8_method_6_code 18 = .ok (.getfield 55, 3) := by decide +kernel
theorem own_d7_21 : decode prog_8_method_6_code 21 = .ok (.iload_n 1, 1) := by decide +kernel
theorem own_d7_22 : decode prog_8_method_6_code 22 = .ok (.daload, 1) := by decide +kernel
theorem own_d7_23 : decode prog_8_method_6_code 23 = .ok (.dastore, 1) := by decide +kernel
theorem own_d7_24 : decode prog_8_method_6_code 24 = .ok (.return_, 1) := by decide +kernel
def own_v7_0 (p1 : Int32) (f_w_trialScaleFactors_r0 : Nat → UInt64) : UInt64 := (f_w_trialScaleFactors_r0 p1.toNatClampNeg)
def own_v7_1 (p1 : Int32) (f_w_trialCrossoverRates_r0 : Nat → UInt64) : UInt64 := (f_w_trialCrossoverRates_r0 p1.toNatClampNeg)
theorem own_ef7 (m : MethodId) (r0 : Addr) (p1 : Int32) : entryFrame m #[(.ref r0), (.int p1)] 2 = mkF m 0 #[.val (.ref r0), .val (.int p1)] [] := by first | (simp [entryFrame, mkF, argsToLocals, Value.category]; done) | rfl
def own_Q7 (Z : State) (r0 : Addr) (p1 : Int32) (w_scaleFactors_r0 : Addr) (w_trialScaleFactors_r0 : Addr) (k_w_trialScaleFactors_r0 : ClassId) (z_w_trialScaleFactors_r0 : Int32) (f_w_trialScaleFactors_r0 : Nat → UInt64) (k_w_scaleFactors_r0 : ClassId) (z_w_scaleFactors_r0 : Int32) (f_w_scaleFactors_r0 : Nat → UInt64) (w_crossoverRates_r0 : Addr) (w_trialCrossoverRates_r0 : Addr) (k_w_trialCrossoverRates_r0 : ClassId) (z_w_trialCrossoverRates_r0 : Int32) (f_w_trialCrossoverRates_r0 : Nat → UInt64) (k_w_crossoverRates_r0 : ClassId) (z_w_crossoverRates_r0 : Int32) (f_w_crossoverRates_r0 : Nat → UInt64) (h0 : Heap) (n0 : Nat) (v : Option Value) (h : Heap) (L : List Loc) : Prop := v = none ∧ Fr n0 L ∧ Keep h0 h [w_scaleFactors_r0, w_crossoverRates_r0] ∧ Arv Z h w_scaleFactors_r0 k_w_scaleFactors_r0 .double z_w_scaleFactors_r0 (own_F z_w_scaleFactors_r0 (own_upd f_w_scaleFactors_r0 p1 (own_v7_0 p1 f_w_trialScaleFactors_r0))) (.double 0) ∧ Arv Z h w_crossoverRates_r0 k_w_crossoverRates_r0 .double z_w_crossoverRates_r0 (own_F z_w_crossoverRates_r0 (own_upd f_w_crossoverRates_r0 p1 (own_v7_1 p1 f_w_trialCrossoverRates_r0))) (.double 0)
set_option maxRecDepth 65536 in
set_option maxHeartbeats 40000000 in
theorem own_rm7 (l : Launch) (Z : State) (a0 : Array Value) (hw : ∀ d ∈ tables_1, d.before a0 Z = true) (ws : List Jvm.Cond) (r0 : Addr) (p1 : Int32) (w_scaleFactors_r0 : Addr) (w_trialScaleFactors_r0 : Addr) (k_w_trialScaleFactors_r0 : ClassId) (z_w_trialScaleFactors_r0 : Int32) (f_w_trialScaleFactors_r0 : Nat → UInt64) (k_w_scaleFactors_r0 : ClassId) (z_w_scaleFactors_r0 : Int32) (f_w_scaleFactors_r0 : Nat → UInt64) (w_crossoverRates_r0 : Addr) (w_trialCrossoverRates_r0 : Addr) (k_w_trialCrossoverRates_r0 : ClassId) (z_w_trialCrossoverRates_r0 : Int32) (f_w_trialCrossoverRates_r0 : Nat → UInt64) (k_w_crossoverRates_r0 : ClassId) (z_w_crossoverRates_r0 : Int32) (f_w_crossoverRates_r0 : Nat → UInt64) (h0 : Heap) (n0 : Nat) (Z0 : n0 ≤ h0.size) (F_scaleFactors_r0 : Fld Z h0 r0 "com/example/evoluta/evoluta/algorithms/de/Jde$SelfAdaptation" "scaleFactors" "[D" (.ref w_scaleFactors_r0)) (F_trialScaleFactors_r0 : Fld Z h0 r0 "com/example/evoluta/evoluta/algorithms/de/Jde$SelfAdaptation" "trialScaleFactors" "[D" (.ref w_trialScaleFactors_r0)) (V_w_trialScaleFactors_r0 : Arv Z h0 w_trialScaleFactors_r0 k_w_trialScaleFactors_r0 .double z_w_trialScaleFactors_r0 (own_F z_w_trialScaleFactors_r0 f_w_trialScaleFactors_r0) (.double 0)) (V_w_scaleFactors_r0 : Arv Z h0 w_scaleFactors_r0 k_w_scaleFactors_r0 .double z_w_scaleFactors_r0 (own_F z_w_scaleFactors_r0 f_w_scaleFactors_r0) (.double 0)) (g_w_scaleFactors_r0 : n0 ≤ w_scaleFactors_r0) (F_crossoverRates_r0 : Fld Z h0 r0 "com/example/evoluta/evoluta/algorithms/de/Jde$SelfAdaptation" "crossoverRates" "[D" (.ref w_crossoverRates_r0)) (F_trialCrossoverRates_r0 : Fld Z h0 r0 "com/example/evoluta/evoluta/algorithms/de/Jde$SelfAdaptation" "trialCrossoverRates" "[D" (.ref w_trialCrossoverRates_r0)) (V_w_trialCrossoverRates_r0 : Arv Z h0 w_trialCrossoverRates_r0 k_w_trialCrossoverRates_r0 .double z_w_trialCrossoverRates_r0 (own_F z_w_trialCrossoverRates_r0 f_w_trialCrossoverRates_r0) (.double 0)) (V_w_crossoverRates_r0 : Arv Z h0 w_crossoverRates_r0 k_w_crossoverRates_r0 .double z_w_crossoverRates_r0 (own_F z_w_crossoverRates_r0 f_w_crossoverRates_r0) (.double 0)) (g_w_crossoverRates_r0 : n0 ≤ w_crossoverRates_r0) (in10 : ¬ (p1 < 0) ∧ p1 < z_w_trialScaleFactors_r0) (in11 : ¬ (p1 < 0) ∧ p1 < z_w_scaleFactors_r0) (ne_r0_w_scaleFactors_r0 : r0 ≠ w_scaleFactors_r0) (ne_w_scaleFactors_r0_w_trialCrossoverRates_r0 : w_scaleFactors_r0 ≠ w_trialCrossoverRates_r0) (in22 : ¬ (p1 < 0) ∧ p1 < z_w_trialCrossoverRates_r0) (ne_w_crossoverRates_r0_w_scaleFactors_r0 : w_crossoverRates_r0 ≠ w_scaleFactors_r0) (in23 : ¬ (p1 < 0) ∧ p1 < z_w_crossoverRates_r0) :
    MetFree l (⟨"com/example/evoluta/evoluta/algorithms/de/Jde$SelfAdaptation", "trialReplaced", "(I)V"⟩ : MethodName) (head1 (Jvm.Cond.code (⟨"com/example/evoluta/evoluta/algorithms/de/Jde$SelfAdaptation", "trialReplaced", "(I)V"⟩ : MethodName) prog_8_method_6_code 2 none :: ws) ({ frames := 0, cells := 0, slots := 0, locals := 0 } : Room)) (fun a U => a = #[(.ref r0), (.int p1)] ∧ Z.Warmed39 U.vm ∧ U.heap = h0) (fun _ _ _ _ _ => True) (fun _ U o U' => ∃ v L, o = .returned v ∧ own_Q7 Z r0 p1 w_scaleFactors_r0 w_trialScaleFactors_r0 k_w_trialScaleFactors_r0 z_w_trialScaleFactors_r0 f_w_trialScaleFactors_r0 k_w_scaleFactors_r0 z_w_scaleFactors_r0 f_w_scaleFactors_r0 w_crossoverRates_r0 w_trialCrossoverRates_r0 k_w_trialCrossoverRates_r0 z_w_trialCrossoverRates_r0 f_w_trialCrossoverRates_r0 k_w_crossoverRates_r0 z_w_crossoverRates_r0 f_w_crossoverRates_r0 h0 n0 v U'.heap L ∧ FrameEnd U o U' L ({ frames := 0, cells := 0, slots := 0, locals := 0 } : Room).cells ({ frames := 0, cells := 0, slots := 0, locals := 0 } : Room).slots) := by
  refine MetFree.of_bodySF (plainFor_of_name own_pn1) hisR ?_
  intro p e s m args below meth c s₁ Bd hml0 hP hK
  obtain ⟨rfl, hZ, hh⟩ := hP
  have hx := Bd.exec
  have hby := Bd.bytes
  have hml : c.maxLocals = 2 := hml0
  have hown : s.vm.findClass "com/example/evoluta/evoluta/algorithms/de/Jde$SelfAdaptation" = some m.cls := findClass_of_methodNamed Bd.named
  have hnm := (name_of_methodNamed Bd.named Bd.method).1
  have X0 : Stand p l e ({ frames := 0, cells := 0, slots := 0, locals := 0 } : Room) s m #[(.ref r0), (.int p1)] below meth c s₁ [] 0 0 := Stand.of_body Bd
  have e0 : s₁.heap = h0 := by rw [← hh, Bd.state]; rfl
  have N0 := Fr.nil n0
  have Zr : h0.size ≤ h0.size := Nat.le_refl _
  have pre0 : ∀ t, Steps p.tables e below (s₁.setTop (mkF m 0 #[.val (.ref r0), .val (.int p1)] [])) t → Steps p.tables e below (s₁.setTop (entryFrame m #[(.ref r0), (.int p1)] 2)) t := fun t k => castTop (own_ef7 m r0 p1) k
  obtain ⟨Tn1, Xn1, en1, stn1⟩ := getF X0 hx hZ hown (host := "") (Or.inl (own_W hw 11 rfl)) Via.refl e0 F_scaleFactors_r0 (g := (mkF m 1 #[.val (.ref r0), .val (.int p1)] [(.ref r0)])) rfl rfl (hb hby own_d7_1)
  obtain ⟨Tn2, Xn2, en2, stn2⟩ := getF Xn1 hx hZ hown (host := "") (Or.inl (own_W hw 21 rfl)) Via.refl en1 F_trialScaleFactors_r0 (g := (mkF m 6 #[.val (.ref r0), .val (.int p1)] [(.ref r0), (.int p1), (.ref w_scaleFactors_r0)])) rfl rfl (hb hby own_d7_6)
  obtain ⟨clo3, Aro3, qo3, So3, No3, Ho3, Go3⟩ := id V_w_trialScaleFactors_r0
  have hi4 := inb_of (j := p1) So3 in10
  have ha5 : _ = some (Value.double (f_w_trialScaleFactors_r0 p1.toNatClampNeg)) := Ho3.at hi4 (own_F_get (own_ltF So3 hi4))
  obtain ⟨clo6, Aro6, qo6, So6, No6, Ho6, Go6⟩ := id V_w_scaleFactors_r0
  have hi8 := inb_of (j := p1) So6 in11
  obtain ⟨To7, ho7, Xo7, eo7, Wo7, sto7⟩ := stD Xn2 hx hZ en2 Aro6 (j := p1) hi8 (g := (mkF m 11 #[.val (.ref r0), .val (.int p1)] [(.double (f_w_trialScaleFactors_r0 p1.toNatClampNeg)), (.int p1), (.ref w_scaleFactors_r0)])) rfl rfl (hb hby own_d7_11)
  have Vwo7 : Arv Z ho7 w_scaleFactors_r0 k_w_scaleFactors_r0 .double z_w_scaleFactors_r0 (own_F z_w_scaleFactors_r0 (own_upd f_w_scaleFactors_r0 p1 (own_v7_0 p1 f_w_trialScaleFactors_r0))) (.double 0) := own_setS (Arv.set Aro6 qo6 So6 No6 Ho6 Go6 rfl Wo7 _ rfl (own_ltL So6 hi8))
  have sz9 : h0.size ≤ ho7.size := Nat.le_trans Zr (Nat.le_of_eq Wo7.size.symm)
  have Nfo7 := Fr.snoc Xo7 N0 g_w_scaleFactors_r0
  have F10 := (F_crossoverRates_r0.other Wo7 (Or.inl ne_r0_w_scaleFactors_r0))
  obtain ⟨Tn11, Xn11, en11, stn11⟩ := getF Xo7 hx hZ hown (host := "") (Or.inl (own_W hw 13 rfl)) Via.refl eo7 F10 (g := (mkF m 13 #[.val (.ref r0), .val (.int p1)] [(.ref r0)])) rfl rfl (hb hby own_d7_13)
  have F12 := (F_trialCrossoverRates_r0.other Wo7 (Or.inl ne_r0_w_scaleFactors_r0))
  obtain ⟨Tn13, Xn13, en13, stn13⟩ := getF Xn11 hx hZ hown (host := "") (Or.inl (own_W hw 23 rfl)) Via.refl en11 F12 (g := (mkF m 18 #[.val (.ref r0), .val (.int p1)] [(.ref r0), (.int p1), (.ref w_crossoverRates_r0)])) rfl rfl (hb hby own_d7_18)
  have F14 := (V_w_trialCrossoverRates_r0.other Wo7 (Ne.symm ne_w_scaleFactors_r0_w_trialCrossoverRates_r0))
  obtain ⟨clo15, Aro15, qo15, So15, No15, Ho15, Go15⟩ := id F14
  have hi16 := inb_of (j := p1) So15 in22
  have ha17 : _ = some (Value.double (f_w_trialCrossoverRates_r0 p1.toNatClampNeg)) := Ho15.at hi16 (own_F_get (own_ltF So15 hi16))
  have F18 := (V_w_crossoverRates_r0.other Wo7 ne_w_crossoverRates_r0_w_scaleFactors_r0)
  obtain ⟨clo19, Aro19, qo19, So19, No19, Ho19, Go19⟩ := id F18
  have hi21 := inb_of (j := p1) So19 in23
  obtain ⟨To20, ho20, Xo20, eo20, Wo20, sto20⟩ := stD Xn13 hx hZ en13 Aro19 (j := p1) hi21 (g := (mkF m 23 #[.val (.ref r0), .val (.int p1)] [(.double (f_w_trialCrossoverRates_r0 p1.toNatClampNeg)), (.int p1), (.ref w_crossoverRates_r0)])) rfl rfl (hb hby own_d7_23)
  have Vwo20 : Arv Z ho20 w_crossoverRates_r0 k_w_crossoverRates_r0 .double z_w_crossoverRates_r0 (own_F z_w_crossoverRates_r0 (own_upd f_w_crossoverRates_r0 p1 (own_v7_1 p1 f_w_trialCrossoverRates_r0))) (.double 0) := own_setS (Arv.set Aro19 qo19 So19 No19 Ho19 Go19 rfl Wo20 _ rfl (own_ltL So19 hi21))
  have sz22 : h0.size ≤ ho20.size := Nat.le_trans sz9 (Nat.le_of_eq Wo20.size.symm)
  have Nfo20 := Fr.snoc Xo20 Nfo7 g_w_crossoverRates_r0
  obtain ⟨fs, hr, hrun, hended, hW, hsame⟩ := Xo20.leave (v := none) (fun _ => rfl)
  refine ⟨_, _, pre0 _ (?_), hrun, hended, _, _, rfl, ?_, ⟨_, rfl⟩, hW, hsame.mono (by decide) (by decide)⟩
  · show Steps p.tables e below (s₁.setTop (mkF m 0 #[.val (.ref r0), .val (.int p1)] [])) _
    refine XS.aloadN X0.here hx rfl (hb hby own_d7_0) rfl rfl ?_
    refine stn1 _ ?_
    refine XS.iloadN Xn1.here hx rfl (hb hby own_d7_4) rfl ?_
    refine XS.aloadN Xn1.here hx rfl (hb hby own_d7_5) rfl rfl ?_
    refine stn2 _ ?_
    show Steps p.tables e below (Tn2.setTop (mkF m 9 #[.val (.ref r0), .val (.int p1)] [(.ref w_trialScaleFactors_r0), (.int p1), (.ref w_scaleFactors_r0)])) _
    refine XS.iloadN Xn2.here hx rfl (hb hby own_d7_9) rfl ?_
    refine Xn2.daload hx (j := p1) (v := (.double (f_w_trialScaleFactors_r0 p1.toNatClampNeg))) (by rw [en2]; exact Aro3.1) (State.isArrayOf_alike hZ.alike Aro3.2.1) Aro3.2.2 hi4 ha5 (g := (mkF m 10 #[.val (.ref r0), .val (.int p1)] [(.int p1), (.ref w_trialScaleFactors_r0), (.int p1), (.ref w_scaleFactors_r0)])) rfl rfl (hb hby own_d7_10) _ ?_
    refine sto7 _ ?_
    show Steps p.tables e below (To7.setTop (mkF m 12 #[.val (.ref r0), .val (.int p1)] [])) _
    refine XS.aloadN Xo7.here hx rfl (hb hby own_d7_12) rfl rfl ?_
    refine stn11 _ ?_
    refine XS.iloadN Xn11.here hx rfl (hb hby own_d7_16) rfl ?_
    refine XS.aloadN Xn11.here hx rfl (hb hby own_d7_17) rfl rfl ?_
    refine stn13 _ ?_
    show Steps p.tables e below (Tn13.setTop (mkF m 21 #[.val (.ref r0), .val (.int p1)] [(.ref w_trialCrossoverRates_r0), (.int p1), (.ref w_crossoverRates_r0)])) _
    refine XS.iloadN Xn13.here hx rfl (hb hby own_d7_21) rfl ?_
    refine Xn13.daload hx (j := p1) (v := (.double (f_w_trialCrossoverRates_r0 p1.toNatClampNeg))) (by rw [en13]; exact Aro15.1) (State.isArrayOf_alike hZ.alike Aro15.2.1) Aro15.2.2 hi16 ha17 (g := (mkF m 22 #[.val (.ref r0), .val (.int p1)] [(.int p1), (.ref w_trialCrossoverRates_r0), (.int p1), (.ref w_crossoverRates_r0)])) rfl rfl (hb hby own_d7_22) _ ?_
    refine sto20 _ ?_
    show Steps p.tables e below (To20.setTop (mkF m 24 #[.val (.ref r0), .val (.int p1)] [])) _
    exact Xo20.returnOut hx Bd.returns (hb hby own_d7_24) hr
  · show own_Q7 Z r0 p1 w_scaleFactors_r0 w_trialScaleFactors_r0 k_w_trialScaleFactors_r0 z_w_trialScaleFactors_r0 f_w_trialScaleFactors_r0 k_w_scaleFactors_r0 z_w_scaleFactors_r0 f_w_scaleFactors_r0 w_crossoverRates_r0 w_trialCrossoverRates_r0 k_w_trialCrossoverRates_r0 z_w_trialCrossoverRates_r0 f_w_trialCrossoverRates_r0 k_w_crossoverRates_r0 z_w_crossoverRates_r0 f_w_crossoverRates_r0 h0 n0 _ To20.heap _
    rw [eo20]
    exact ⟨rfl, Nfo20, (((Keep.refl h0 [w_scaleFactors_r0, w_crossoverRates_r0]).wr Wo7 (Or.inl (List.mem_of_getElem? (i := 0) rfl))).wr Wo20 (Or.inl (List.mem_of_getElem? (i := 1) rfl))), (Vwo7.other Wo20 (Ne.symm ne_w_crossoverRates_r0_w_scaleFactors_r0)), Vwo20⟩
theorem own_pd1 : parseMethodDescriptor "(I)V" = some ⟨[.int], none⟩ := by decide +kernel
theorem own_pd2 : parseMethodDescriptor "(I)[[D" = some ⟨[.int], some (.array (.array .double))⟩ := by decide +kernel
theorem own_pd3 : parseMethodDescriptor "([[DDD)Z" = some ⟨[(.array (.array .double)), .double, .double], some .boolean⟩ := by decide +kernel
theorem own_pd4 : parseMethodDescriptor "(I[[D)V" = some ⟨[.int, (.array (.array .double))], none⟩ := by decide +kernel
def own_v0_0 (p0 : Int32) : Int32 := ((1 : Int32) + (p0 &&& (7 : Int32)))
def own_v0_1 (p0 : Int32) (p1 : Int32) : Int32 := ((p1 &&& (2147483647 : Int32)) - ((p1 &&& (2147483647 : Int32)) / (own_v0_0 p0)) * (own_v0_0 p0))
def own_v0_2 (p0 : Int32) (p2 : Int32) : Int32 := ((p2 &&& (2147483647 : Int32)) - ((p2 &&& (2147483647 : Int32)) / (own_v0_0 p0)) * (own_v0_0 p0))
def own_j0_3 (p0 : Int32) (p1 : Int32) (p2 : Int32) (p3 : Int32) : UInt64 := if (own_v0_2 p0 p2) = (own_v0_1 p0 p1) then (FP.i2d p3) else (4602678819172646912 : UInt64)
def own_j0_4 (p0 : Int32) (p1 : Int32) (p2 : Int32) (q4 : Int64) : UInt64 := if (own_v0_2 p0 p2) = (own_v0_1 p0 p1) then (FP.l2d q4) else (4606281698874543309 : UInt64)
def own_j0_5 (p0 : Int32) (p1 : Int32) (p2 : Int32) (p3 : Int32) : UInt64 := if (own_v0_2 p0 p2) = (own_v0_1 p0 p1) then (0 : UInt64) else (FP.i2d p3)
def own_j0_6 (p0 : Int32) (p1 : Int32) (p2 : Int32) (q4 : Int64) : UInt64 := if (own_v0_2 p0 p2) = (own_v0_1 p0 p1) then (0 : UInt64) else (FP.l2d q4)
theorem own_ef0 (m : MethodId) (p0 : Int32) (p1 : Int32) (p2 : Int32) (p3 : Int32) (q4 : Int64) (p5 : Int32) : entryFrame m #[(.int p0), (.int p1), (.int p2), (.int p3), (.long q4), (.int p5)] maxLocals = mkF m 0 #[.val (.int p0), .val (.int p1), .val (.int p2), .val (.int p3), .val (.long q4), .second, .val (.int p5), .unset, .unset, .unset, .unset, .unset, .unset, .unset, .unset, .unset, .unset, .unset, .unset, .unset, .unset, .unset, .unset, .unset, .unset, .unset, .unset, .unset, .unset] [] := by first | (simp [entryFrame, mkF, argsToLocals, Value.category, maxLocals]; done) | rfl
def own_Q0 (Z : State) (p0 : Int32) (p1 : Int32) (p2 : Int32) (p3 : Int32) (q4 : Int64) (p5 : Int32) (h0 : Heap) (n0 : Nat) (v : Option Value) (h : Heap) (L : List Loc) : Prop := v = some (.int 1) ∧ Fr n0 L
set_option maxRecDepth 65536 in
set_option maxHeartbeats 40000000 in
theorem own_rm0 (l : Launch) (Z : State) (a0 : Array Value) (hw : ∀ d ∈ tables_1, d.before a0 Z = true) (ws : List Jvm.Cond) (p0 : Int32) (p1 : Int32) (p2 : Int32) (p3 : Int32) (q4 : Int64) (p5 : Int32) (h0 : Heap) (n0 : Nat) (Z0 : n0 ≤ h0.size) (hz14 : (own_v0_0 p0) ≠ 0) (c55_len6 : (p5 &&& (1 : Int32)) = (0 : Int32) → ¬ ((own_v0_0 p0) < 0) ∧ (own_v0_0 p0).toNatClampNeg ≤ 8) (c64_in16 : (p5 &&& (1 : Int32)) = (0 : Int32) → ¬ ((own_v0_2 p0 p2) < 0) ∧ (own_v0_2 p0 p2) < (own_v0_0 p0)) (c77_hc51 : (p5 &&& (1 : Int32)) = (0 : Int32) → (cmpValue (FP.dcmp (own_v4_0 (own_v0_2 p0 p2) (own_cst (4602678819172646912 : UInt64))) (4602678819172646912 : UInt64)) .l) = (0 : Int32)) (c77_hc61 : (p5 &&& (1 : Int32)) = (0 : Int32) → (cmpValue (FP.dcmp (own_v4_1 (own_v0_2 p0 p2) (own_cst (4606281698874543309 : UInt64))) (4606281698874543309 : UInt64)) .l) = (0 : Int32)) (c137_in10 : (p5 &&& (1 : Int32)) = (0 : Int32) → ¬ ((own_v0_1 p0 p1) < 0) ∧ (own_v0_1 p0 p1) < (own_v0_0 p0)) (c155_hc51 : (p5 &&& (1 : Int32)) = (0 : Int32) → (cmpValue (FP.dcmp (own_v4_0 (own_v0_1 p0 p1) (own_upd (own_cst (4602678819172646912 : UInt64)) (own_v0_1 p0 p1) (FP.i2d p3))) (FP.i2d p3)) .l) = (0 : Int32)) (c155_hc61 : (p5 &&& (1 : Int32)) = (0 : Int32) → (cmpValue (FP.dcmp (own_v4_1 (own_v0_1 p0 p1) (own_upd (own_cst (4606281698874543309 : UInt64)) (own_v0_1 p0 p1) (FP.l2d q4))) (FP.l2d q4)) .l) = (0 : Int32)) (c313_hc51 : (p5 &&& (1 : Int32)) = (0 : Int32) → (cmpValue (FP.dcmp (own_v4_0 (own_v0_2 p0 p2) (own_upd (own_cst (4602678819172646912 : UInt64)) (own_v0_1 p0 p1) (FP.i2d p3))) (own_j0_3 p0 p1 p2 p3)) .l) = (0 : Int32)) (c313_hc61 : (p5 &&& (1 : Int32)) = (0 : Int32) → (cmpValue (FP.dcmp (own_v4_1 (own_v0_2 p0 p2) (own_upd (own_cst (4606281698874543309 : UInt64)) (own_v0_1 p0 p1) (FP.l2d q4))) (own_j0_4 p0 p1 p2 q4)) .l) = (0 : Int32)) (c55_len6_2 : ¬ ((p5 &&& (1 : Int32)) = (0 : Int32)) → ¬ ((own_v0_0 p0) < 0) ∧ (own_v0_0 p0).toNatClampNeg ≤ 8) (c64_in16_2 : ¬ ((p5 &&& (1 : Int32)) = (0 : Int32)) → ¬ ((own_v0_2 p0 p2) < 0) ∧ (own_v0_2 p0 p2) < (own_v0_0 p0)) (c77_hc51_2 : ¬ ((p5 &&& (1 : Int32)) = (0 : Int32)) → (cmpValue (FP.dcmp (own_v4_0 (own_v0_2 p0 p2) (own_cst (4602678819172646912 : UInt64))) (4602678819172646912 : UInt64)) .l) = (0 : Int32)) (c77_hc61_2 : ¬ ((p5 &&& (1 : Int32)) = (0 : Int32)) → (cmpValue (FP.dcmp (own_v4_1 (own_v0_2 p0 p2) (own_cst (4606281698874543309 : UInt64))) (4606281698874543309 : UInt64)) .l) = (0 : Int32)) (c137_in10_2 : ¬ ((p5 &&& (1 : Int32)) = (0 : Int32)) → ¬ ((own_v0_1 p0 p1) < 0) ∧ (own_v0_1 p0 p1) < (own_v0_0 p0)) (c155_hc51_2 : ¬ ((p5 &&& (1 : Int32)) = (0 : Int32)) → (cmpValue (FP.dcmp (own_v4_0 (own_v0_1 p0 p1) (own_upd (own_cst (4602678819172646912 : UInt64)) (own_v0_1 p0 p1) (FP.i2d p3))) (FP.i2d p3)) .l) = (0 : Int32)) (c155_hc61_2 : ¬ ((p5 &&& (1 : Int32)) = (0 : Int32)) → (cmpValue (FP.dcmp (own_v4_1 (own_v0_1 p0 p1) (own_upd (own_cst (4606281698874543309 : UInt64)) (own_v0_1 p0 p1) (FP.l2d q4))) (FP.l2d q4)) .l) = (0 : Int32)) (c248_hc51 : ¬ ((p5 &&& (1 : Int32)) = (0 : Int32)) → (cmpValue (FP.dcmp (own_v4_0 (own_v0_1 p0 p1) (own_upd (own_upd (own_cst (4602678819172646912 : UInt64)) (own_v0_1 p0 p1) (FP.i2d p3)) (own_v0_2 p0 p2) (own_v7_0 (own_v0_2 p0 p2) (own_cst 0)))) (own_j0_5 p0 p1 p2 p3)) .l) = (0 : Int32)) (c248_hc61 : ¬ ((p5 &&& (1 : Int32)) = (0 : Int32)) → (cmpValue (FP.dcmp (own_v4_1 (own_v0_1 p0 p1) (own_upd (own_upd (own_cst (4606281698874543309 : UInt64)) (own_v0_1 p0 p1) (FP.l2d q4)) (own_v0_2 p0 p2) (own_v7_1 (own_v0_2 p0 p2) (own_cst 0)))) (own_j0_6 p0 p1 p2 q4)) .l) = (0 : Int32)) (c313_hc51_2 : ¬ ((p5 &&& (1 : Int32)) = (0 : Int32)) → (cmpValue (FP.dcmp (own_v4_0 (own_v0_2 p0 p2) (own_upd (own_upd (own_cst (4602678819172646912 : UInt64)) (own_v0_1 p0 p1) (FP.i2d p3)) (own_v0_2 p0 p2) (own_v7_0 (own_v0_2 p0 p2) (own_cst 0)))) (0 : UInt64)) .l) = (0 : Int32)) (c313_hc61_2 : ¬ ((p5 &&& (1 : Int32)) = (0 : Int32)) → (cmpValue (FP.dcmp (own_v4_1 (own_v0_2 p0 p2) (own_upd (own_upd (own_cst (4606281698874543309 : UInt64)) (own_v0_1 p0 p1) (FP.l2d q4)) (own_v0_2 p0 p2) (own_v7_1 (own_v0_2 p0 p2) (own_cst 0)))) (0 : UInt64)) .l) = (0 : Int32)) :
    MetFree l x (head1 (Jvm.Cond.code x code maxLocals ret :: ws) room_1) (fun a U => a = #[(.int p0), (.int p1), (.int p2), (.int p3), (.long q4), (.int p5)] ∧ Z.Warmed39 U.vm ∧ U.heap = h0) (fun _ _ _ _ _ => True) (fun _ U o U' => ∃ v L, o = .returned v ∧ own_Q0 Z p0 p1 p2 p3 q4 p5 h0 n0 v U'.heap L ∧ FrameEnd U o U' L room_1.cells room_1.slots) := by
  refine MetFree.of_bodySF (plainFor_of_name own_pn2) hisR ?_
  intro p e s m args below meth c s₁ Bd hml0 hP hK
  obtain ⟨rfl, hZ, hh⟩ := hP
  have hx := Bd.exec
  have hby := Bd.bytes
  have hml : c.maxLocals = 29 := hml0
  have hown : s.vm.findClass "com/example/evoluta/evoluta/algorithms/de/SelfAdaptationParametersPinLaw" = some m.cls := findClass_of_methodNamed Bd.named
  have hnm := (name_of_methodNamed Bd.named Bd.method).1
  have X0 : Stand p l e room_1 s m #[(.int p0), (.int p1), (.int p2), (.int p3), (.long q4), (.int p5)] below meth c s₁ [] 0 0 := Stand.of_body Bd
  have e0 : s₁.heap = h0 := by rw [← hh, Bd.state]; rfl
  have N0 := Fr.nil n0
  have Zr : h0.size ≤ h0.size := Nat.le_refl _
  have pre0 : ∀ t, Steps p.tables e below (s₁.setTop (mkF m 0 #[.val (.int p0), .val (.int p1), .val (.int p2), .val (.int p3), .val (.long q4), .second, .val (.int p5), .unset, .unset, .unset, .unset, .unset, .unset, .unset, .unset, .unset, .unset, .unset, .unset, .unset, .unset, .unset, .unset, .unset, .unset, .unset, .unset, .unset, .unset] [])) t → Steps p.tables e below (s₁.setTop (entryFrame m #[(.int p0), (.int p1), (.int p2), (.int p3), (.long q4), (.int p5)] maxLocals)) t := fun t k => castTop (own_ef0 m p0 p1 p2 p3 q4 p5) k
  have Ks1 : ∀ t, Steps p.tables e below (s₁.setTop (mkF m 30 #[.val (.int p0), .val (.int p1), .val (.int p2), .val (.int p3), .val (.long q4), .second, .val (.int p5), .val (.int (own_v0_0 p0)), .val (.int (own_v0_1 p0 p1)), .val (.int (own_v0_2 p0 p2)), .unset, .unset, .unset, .unset, .unset, .unset, .unset, .unset, .unset, .unset, .unset, .unset, .unset, .unset, .unset, .unset, .unset, .unset, .unset] [(.int (p5 &&& (1 : Int32)))])) t → Steps p.tables e below (s₁.setTop (mkF m 0 #[.val (.int p0), .val (.int p1), .val (.int p2), .val (.int p3), .val (.long q4), .second, .val (.int p5), .unset, .unset, .unset, .unset, .unset, .unset, .unset, .unset, .unset, .unset, .unset, .unset, .unset, .unset, .unset, .unset, .unset, .unset, .unset, .unset, .unset, .unset] [])) t := by
    intro t kt
    show Steps p.tables e below (s₁.setTop (mkF m 0 #[.val (.int p0), .val (.int p1), .val (.int p2), .val (.int p3), .val (.long q4), .second, .val (.int p5), .unset, .unset, .unset, .unset, .unset, .unset, .unset, .unset, .unset, .unset, .unset, .unset, .unset, .unset, .unset, .unset, .unset, .unset, .unset, .unset, .unset, .unset] [])) _
    refine XS.iconst X0.here hx rfl (hb hby at_0) ?_
    refine XS.iloadN X0.here hx rfl (hb hby at_1) rfl ?_
    refine XS.bipush X0.here hx rfl (hb hby at_2) ?_
    refine XS.iand X0.here hx rfl (hb hby at_4) rfl ?_
    refine XS.iadd X0.here hx rfl (hb hby at_5) rfl ?_
    refine XS.istore X0.here hx rfl (hb hby at_6) rfl (l' := #[.val (.int p0), .val (.int p1), .val (.int p2), .val (.int p3), .val (.long q4), .second, .val (.int p5), .val (.int (own_v0_0 p0)), .unset, .unset, .unset, .unset, .unset, .unset, .unset, .unset, .unset, .unset, .unset, .unset, .unset, .unset, .unset, .unset, .unset, .unset, .unset, .unset, .unset]) rfl ?_
    refine XS.iloadN X0.here hx rfl (hb hby at_8) rfl ?_
    refine X0.ldcInt hx hown (mvT hZ (own_W hw 0 rfl)) (g := (mkF m 9 #[.val (.int p0), .val (.int p1), .val (.int p2), .val (.int p3), .val (.long q4), .second, .val (.int p5), .val (.int (own_v0_0 p0)), .unset, .unset, .unset, .unset, .unset, .unset, .unset, .unset, .unset, .unset, .unset, .unset, .unset, .unset, .unset, .unset, .unset, .unset, .unset, .unset, .unset] [(.int p1)])) rfl (hb hby at_9) _ ?_
    show Steps p.tables e below (s₁.setTop (mkF m 11 #[.val (.int p0), .val (.int p1), .val (.int p2), .val (.int p3), .val (.long q4), .second, .val (.int p5), .val (.int (own_v0_0 p0)), .unset, .unset, .unset, .unset, .unset, .unset, .unset, .unset, .unset, .unset, .unset, .unset, .unset, .unset, .unset, .unset, .unset, .unset, .unset, .unset, .unset] [(.int 2147483647), (.int p1)])) _
    refine XS.iand X0.here hx rfl (hb hby at_11) rfl ?_
    refine XS.iload X0.here hx rfl (hb hby at_12) rfl ?_
    refine XS.irem X0.here hx rfl (hb hby at_14) rfl hz14 ?_
    refine XS.istore X0.here hx rfl (hb hby at_15) rfl (l' := #[.val (.int p0), .val (.int p1), .val (.int p2), .val (.int p3), .val (.long q4), .second, .val (.int p5), .val (.int (own_v0_0 p0)), .val (.int (own_v0_1 p0 p1)), .unset, .unset, .unset, .unset, .unset, .unset, .unset, .unset, .unset, .unset, .unset, .unset, .unset, .unset, .unset, .unset, .unset, .unset, .unset, .unset]) rfl ?_
    refine XS.iloadN X0.here hx rfl (hb hby at_17) rfl ?_
    refine X0.ldcInt hx hown (mvT hZ (own_W hw 0 rfl)) (g := (mkF m 18 #[.val (.int p0), .val (.int p1), .val (.int p2), .val (.int p3), .val (.long q4), .second, .val (.int p5), .val (.int (own_v0_0 p0)), .val (.int (own_v0_1 p0 p1)), .unset, .unset, .unset, .unset, .unset, .unset, .unset, .unset, .unset, .unset, .unset, .unset, .unset, .unset, .unset, .unset, .unset, .unset, .unset, .unset] [(.int p2)])) rfl (hb hby at_18) _ ?_
    show Steps p.tables e below (s₁.setTop (mkF m 20 #[.val (.int p0), .val (.int p1), .val (.int p2), .val (.int p3), .val (.long q4), .second, .val (.int p5), .val (.int (own_v0_0 p0)), .val (.int (own_v0_1 p0 p1)), .unset, .unset, .unset, .unset, .unset, .unset, .unset, .unset, .unset, .unset, .unset, .unset, .unset, .unset, .unset, .unset, .unset, .unset, .unset, .unset] [(.int 2147483647), (.int p2)])) _
    refine XS.iand X0.here hx rfl (hb hby at_20) rfl ?_
    refine XS.iload X0.here hx rfl (hb hby at_21) rfl ?_
    refine XS.irem X0.here hx rfl (hb hby at_23) rfl hz14 ?_
    refine XS.istore X0.here hx rfl (hb hby at_24) rfl (l' := #[.val (.int p0), .val (.int p1), .val (.int p2), .val (.int p3), .val (.long q4), .second, .val (.int p5), .val (.int (own_v0_0 p0)), .val (.int (own_v0_1 p0 p1)), .val (.int (own_v0_2 p0 p2)), .unset, .unset, .unset, .unset, .unset, .unset, .unset, .unset, .unset, .unset, .unset, .unset, .unset, .unset, .unset, .unset, .unset, .unset, .unset]) rfl ?_
    refine XS.iload X0.here hx rfl (hb hby at_26) rfl ?_
    refine XS.iconst X0.here hx rfl (hb hby at_28) ?_
    refine XS.iand X0.here hx rfl (hb hby at_29) rfl ?_
    exact kt
  by_cases hs1 : (p5 &&& (1 : Int32)) = (0 : Int32)
  · have K2 : ∀ t, Steps p.tables e below (s₁.setTop (mkF m 37 #[.val (.int p0), .val (.int p1), .val (.int p2), .val (.int p3), .val (.long q4), .second, .val (.int p5), .val (.int (own_v0_0 p0)), .val (.int (own_v0_1 p0 p1)), .val (.int (own_v0_2 p0 p2)), .unset, .unset, .unset, .unset, .unset, .unset, .unset, .unset, .unset, .unset, .unset, .unset, .unset, .unset, .unset, .unset, .unset, .unset, .unset] [])) t → Steps p.tables e below (s₁.setTop (mkF m 30 #[.val (.int p0), .val (.int p1), .val (.int p2), .val (.int p3), .val (.long q4), .second, .val (.int p5), .val (.int (own_v0_0 p0)), .val (.int (own_v0_1 p0 p1)), .val (.int (own_v0_2 p0 p2)), .unset, .unset, .unset, .unset, .unset, .unset, .unset, .unset, .unset, .unset, .unset, .unset, .unset, .unset, .unset, .unset, .unset, .unset, .unset] [(.int (p5 &&& (1 : Int32)))])) t := by
      intro t kt
      show Steps p.tables e below (s₁.setTop (mkF m 30 #[.val (.int p0), .val (.int p1), .val (.int p2), .val (.int p3), .val (.long q4), .second, .val (.int p5), .val (.int (own_v0_0 p0)), .val (.int (own_v0_1 p0 p1)), .val (.int (own_v0_2 p0 p2)), .unset, .unset, .unset, .unset, .unset, .unset, .unset, .unset, .unset, .unset, .unset, .unset, .unset, .unset, .unset, .unset, .unset, .unset, .unset] [(.int (p5 &&& (1 : Int32)))])) _
      refine XS.ifYes X0.here hx rfl (pc0 := 30) (pc' := 37) rfl (hb hby at_30) rfl (XT.i0_eq_t hs1) (by decide) (by decide) ?_
      exact kt
    obtain ⟨Tn3, hn3, Xn3, en3, En3, An3, Dn3, -, stn3⟩ := newO X0 hx hZ hown (own_W hw 1 rfl) (own_W hw 2 rfl) (own_W hw 3 rfl) e0 (g := (mkF m 49 #[.val (.int p0), .val (.int p1), .val (.int p2), .val (.int p3), .val (.long q4), .second, .val (.int p5), .val (.int (own_v0_0 p0)), .val (.int (own_v0_1 p0 p1)), .val (.int (own_v0_2 p0 p2)), .val (.int 0), .val (.double (FP.i2d p3)), .second, .val (.double (FP.l2d q4)), .second, .unset, .unset, .unset, .unset, .unset, .unset, .unset, .unset, .unset, .unset, .unset, .unset, .unset, .unset] [])) rfl (hb hby at_49) (by decide) (by decide)
    obtain ⟨bn3, gn3⟩ : ∃ z, z = h0.size := ⟨_, rfl⟩
    rw [← gn3] at An3 Dn3 stn3
    have g_bn3 : n0 ≤ bn3 := Nat.le_trans Z0 (Nat.le_of_eq gn3.symm)
    have sz_bn3 : h0.size ≤ bn3 := Nat.le_trans Zr (Nat.le_of_eq gn3.symm)
    have sz4 : h0.size ≤ hn3.size := Nat.le_trans Zr En3.1
    have F_scaleFactors_bn3 : Fld Z hn3 bn3 "com/example/evoluta/evoluta/algorithms/de/Jde$SelfAdaptation" "scaleFactors" "[D" .null := Dn3 (Or.inr (own_W hw 12 rfl)) (ty := (.array .double)) (by decide)
    have F_crossoverRates_bn3 : Fld Z hn3 bn3 "com/example/evoluta/evoluta/algorithms/de/Jde$SelfAdaptation" "crossoverRates" "[D" .null := Dn3 (Or.inr (own_W hw 14 rfl)) (ty := (.array .double)) (by decide)
    have F_trialScaleFactors_bn3 : Fld Z hn3 bn3 "com/example/evoluta/evoluta/algorithms/de/Jde$SelfAdaptation" "trialScaleFactors" "[D" .null := Dn3 (Or.inr (own_W hw 22 rfl)) (ty := (.array .double)) (by decide)
    have F_trialCrossoverRates_bn3 : Fld Z hn3 bn3 "com/example/evoluta/evoluta/algorithms/de/Jde$SelfAdaptation" "trialCrossoverRates" "[D" .null := Dn3 (Or.inr (own_W hw 24 rfl)) (ty := (.array .double)) (by decide)
    obtain ⟨_, _, ⟨Tk5, Lk5, kk5, nk5⟩, -, Xk5, ⟨Lck5, hQk5, lk5, yk5, zk5⟩, stk5⟩ := Xn3.specialBack hx (y := (⟨"com/example/evoluta/evoluta/algorithms/de/Jde$SelfAdaptation", "<init>", "(I)V"⟩ : MethodName)) rfl hown (mvT hZ (own_W hw 4 rfl)) (mvT hZ (own_W hw 5 rfl)) (mvT hZ (own_W hw 6 rfl)) (by decide) (backOf (W := 1) (own_rm1 l Z a0 hw [] bn3 (own_v0_0 p0) .null .null .null .null hn3 n0 (Nat.le_trans Z0 sz4) An3 F_scaleFactors_bn3 g_bn3 F_crossoverRates_bn3 F_trialScaleFactors_bn3 F_trialCrossoverRates_bn3 (c55_len6 hs1)) hZ (own_W hw 6 rfl) (own_W hw 3 rfl) (by decide) (by decide)) (g := (mkF m 55 #[.val (.int p0), .val (.int p1), .val (.int p2), .val (.int p3), .val (.long q4), .second, .val (.int p5), .val (.int (own_v0_0 p0)), .val (.int (own_v0_1 p0 p1)), .val (.int (own_v0_2 p0 p2)), .val (.int 0), .val (.double (FP.i2d p3)), .second, .val (.double (FP.l2d q4)), .second, .unset, .unset, .unset, .unset, .unset, .unset, .unset, .unset, .unset, .unset, .unset, .unset, .unset, .unset] [(.int (own_v0_0 p0)), (.ref bn3), (.ref bn3)])) rfl (by rw [hml]; rfl) (Steps.refl _) (a := bn3) (argsL := [(.int (own_v0_0 p0))]) (rest := [(.ref bn3)]) (lenOf own_pd1 rfl) rfl (by show 2 * 0 + _ ≤ _; exact Nat.le_of_eq rfl) (hb hby at_55) (fun _ _ => ⟨rfl, en3, (by decide : 1 + 4 ≤ _), (by decide : 4 + 32 ≤ _)⟩)
    dsimp only [Pt.U, Pt.locs, Pt.cells, Pt.slots] at Xk5 lk5 yk5 zk5 stk5 hQk5
    replace lk5 := lk5.symm; replace yk5 := yk5.symm; replace zk5 := zk5.symm; subst lk5 yk5 zk5
    obtain ⟨bk5_0, kk5_1, bk5_2, kk5_3, bk5_4, kk5_5, bk5_6, kk5_7, rfl, Nk5q, Kk5, lebk5_0, lebk5_2, lebk5_4, lebk5_6, nek5_0, nek5_1, nek5_2, nek5_3, nek5_4, nek5_5, Qk5_0, Qk5_1, Qk5_2, Qk5_3, Qk5_4, Qk5_5, Qk5_6, Qk5_7, Qk5_8⟩ := hQk5
    have g_bk5_0 : n0 ≤ bk5_0 := Nat.le_trans (Nat.le_trans Z0 sz4) lebk5_0
    have sz_bk5_0 : h0.size ≤ bk5_0 := Nat.le_trans sz4 lebk5_0
    have g_bk5_2 : n0 ≤ bk5_2 := Nat.le_trans (Nat.le_trans Z0 sz4) lebk5_2
    have sz_bk5_2 : h0.size ≤ bk5_2 := Nat.le_trans sz4 lebk5_2
    have g_bk5_4 : n0 ≤ bk5_4 := Nat.le_trans (Nat.le_trans Z0 sz4) lebk5_4
    have sz_bk5_4 : h0.size ≤ bk5_4 := Nat.le_trans sz4 lebk5_4
    have g_bk5_6 : n0 ≤ bk5_6 := Nat.le_trans (Nat.le_trans Z0 sz4) lebk5_6
    have sz_bk5_6 : h0.size ≤ bk5_6 := Nat.le_trans sz4 lebk5_6
    have sz6 : h0.size ≤ Tk5.heap.size := Nat.le_trans sz4 Kk5.1
    have Nk5 := Fr.app N0 Nk5q
    obtain ⟨cqk7, kqk7, qk7a, qk7b, qk7c⟩ := isOf hZ rfl Qk5_0
    obtain ⟨_, _, ⟨Tk7, Lk7, kk7, nk7⟩, -, Xk7, ⟨Lck7, hQk7, lk7, yk7, zk7⟩, stk7⟩ := Xk5.virtualBack hx (y := (⟨"com/example/evoluta/evoluta/algorithms/de/Jde$SelfAdaptation", "parameters", "(I)[[D"⟩ : MethodName)) (z := (⟨"com/example/evoluta/evoluta/algorithms/de/Jde$SelfAdaptation", "parameters", "(I)[[D"⟩ : MethodName)) hown (mvT hZ (own_W hw 25 rfl)) (mvT hZ (own_W hw 26 rfl)) (notFace_of_selects (args := #[]) (mvT hZ (own_W hw 28 rfl))) (mvT hZ (own_W hw 28 rfl)) (mvT hZ (own_W hw 27 rfl)) (by decide) (backOf (W := 0) (own_rm4 l Z a0 hw [] bn3 (own_v0_2 p0 p2) bk5_0 kk5_1 (own_v0_0 p0) (own_cst (4602678819172646912 : UInt64)) bk5_2 kk5_3 (own_v0_0 p0) (own_cst (4606281698874543309 : UInt64)) Tk5.heap n0 (Nat.le_trans Z0 sz6) Qk5_1 Qk5_5 Qk5_2 Qk5_6 (c64_in16 hs1) (c64_in16 hs1)) hZ (own_W hw 29 rfl) (own_W hw 3 rfl) (by decide) (by decide)) qk7a qk7c (g := (mkF m 64 #[.val (.int p0), .val (.int p1), .val (.int p2), .val (.int p3), .val (.long q4), .second, .val (.int p5), .val (.int (own_v0_0 p0)), .val (.int (own_v0_1 p0 p1)), .val (.int (own_v0_2 p0 p2)), .val (.int 0), .val (.double (FP.i2d p3)), .second, .val (.double (FP.l2d q4)), .second, .val (.ref bn3), .unset, .unset, .unset, .unset, .unset, .unset, .unset, .unset, .unset, .unset, .unset, .unset, .unset] [(.int (own_v0_2 p0 p2)), (.ref bn3)])) rfl (by rw [hml]; rfl) (Steps.refl _) (argsL := [(.int (own_v0_2 p0 p2))]) (rest := []) (lenOf own_pd2 rfl) rfl (by show 2 * 0 + _ ≤ _; exact Nat.le_of_eq rfl) (hb hby at_64) (fun _ _ => ⟨rfl, rfl, (by decide : 5 + 3 ≤ _), (by decide : 36 + 4 ≤ _)⟩)
    dsimp only [Pt.U, Pt.locs, Pt.cells, Pt.slots] at Xk7 lk7 yk7 zk7 stk7 hQk7
    replace lk7 := lk7.symm; replace yk7 := yk7.symm; replace zk7 := zk7.symm; subst lk7 yk7 zk7
    obtain ⟨bk7_0, kk7_1, bk7_2, kk7_3, bk7_4, kk7_5, rfl, Nk7q, Kk7, lebk7_0, lebk7_2, lebk7_4, nek7_0, nek7_1, nek7_2, Qk7_0, Qk7_1, Qk7_2, Qk7_3, Qk7_4, Qk7_5⟩ := hQk7
    have g_bk7_0 : n0 ≤ bk7_0 := Nat.le_trans (Nat.le_trans Z0 sz6) lebk7_0
    have sz_bk7_0 : h0.size ≤ bk7_0 := Nat.le_trans sz6 lebk7_0
    have g_bk7_2 : n0 ≤ bk7_2 := Nat.le_trans (Nat.le_trans Z0 sz6) lebk7_2
    have sz_bk7_2 : h0.size ≤ bk7_2 := Nat.le_trans sz6 lebk7_2
    have g_bk7_4 : n0 ≤ bk7_4 := Nat.le_trans (Nat.le_trans Z0 sz6) lebk7_4
    have sz_bk7_4 : h0.size ≤ bk7_4 := Nat.le_trans sz6 lebk7_4
    have sz8 : h0.size ≤ Tk7.heap.size := Nat.le_trans sz6 Kk7.1
    have Nk7 := Fr.app Nk5 Nk7q
    obtain ⟨_, _, ⟨Tk9, Lk9, kk9, nk9⟩, -, Xk9, ⟨Lck9, hQk9, lk9, yk9, zk9⟩, stk9⟩ := Jvm.LawKit.callS Xk7 hx (y := (⟨"com/example/evoluta/evoluta/algorithms/de/SelfAdaptationParametersPinLaw", "is", "([[DDD)Z"⟩ : MethodName)) hown (mvT hZ (own_W hw 35 rfl)) (mvT hZ (own_W hw 36 rfl)) (mvT hZ (own_W hw 37 rfl)) (mvT hZ (own_W hw 38 rfl)) (by decide) (backOf (W := 0) (own_rm5 l Z a0 hw [] bk7_0 (4602678819172646912 : UInt64) (4606281698874543309 : UInt64) kk7_1 bk7_2 bk7_4 kk7_3 (own_v4_0 (own_v0_2 p0 p2) (own_cst (4602678819172646912 : UInt64))) kk7_5 (own_v4_1 (own_v0_2 p0 p2) (own_cst (4606281698874543309 : UInt64))) Tk7.heap n0 (Nat.le_trans Z0 sz8) Qk7_1 Qk7_3 Qk7_5 (c77_hc51 hs1) (c77_hc61 hs1)) hZ (own_W hw 38 rfl) (own_W hw 37 rfl) (by decide) (by decide)) (g := (mkF m 77 #[.val (.int p0), .val (.int p1), .val (.int p2), .val (.int p3), .val (.long q4), .second, .val (.int p5), .val (.int (own_v0_0 p0)), .val (.int (own_v0_1 p0 p1)), .val (.int (own_v0_2 p0 p2)), .val (.int 0), .val (.double (FP.i2d p3)), .second, .val (.double (FP.l2d q4)), .second, .val (.ref bn3), .val (.ref bk7_0), .unset, .unset, .unset, .unset, .unset, .unset, .unset, .unset, .unset, .unset, .unset, .unset] [(.double 4606281698874543309), (.double 4602678819172646912), (.ref bk7_0)])) rfl (by rw [hml]; rfl) (argsL := [(.ref bk7_0), (.double 4602678819172646912), (.double 4606281698874543309)]) (rest := []) (lenOf own_pd3 rfl) rfl (by show 2 * 0 + _ ≤ _; exact Nat.le_of_eq rfl) (hb hby at_77) (fun _ _ => ⟨rfl, rfl, (by decide : 8 + 0 ≤ _), (by decide : 40 + 0 ≤ _)⟩)
    dsimp only [Pt.U, Pt.locs, Pt.cells, Pt.slots] at Xk9 lk9 yk9 zk9 stk9 hQk9
    replace lk9 := lk9.symm; replace yk9 := yk9.symm; replace zk9 := zk9.symm; subst lk9 yk9 zk9
    obtain ⟨rfl, Nk9q, ek9⟩ := hQk9
    have Nk9 := Fr.app Nk7 Nk9q
    obtain ⟨clo10, Aro10, qo10, So10, No10, Ho10, Go10⟩ := id Qk7_1
    have hi11 := inb_of (j := (0 : Int32)) So10 ⟨by decide, by decide⟩
    have ha12 : _ = some (Value.ref bk7_2) := Ho10.at hi11 rfl
    obtain ⟨clo13, Aro13, qo13, So13, No13, Ho13, Go13⟩ := id Qk7_3
    have hi14 := inb_of (j := (0 : Int32)) So13 ⟨by decide, by decide⟩
    obtain ⟨To15, ho15, Xo15, eo15, Wo15, sto15⟩ := stD Xk9 hx hZ ek9 Aro13 (j := (0 : Int32)) hi14 (g := (mkF m 93 #[.val (.int p0), .val (.int p1), .val (.int p2), .val (.int p3), .val (.long q4), .second, .val (.int p5), .val (.int (own_v0_0 p0)), .val (.int (own_v0_1 p0 p1)), .val (.int (own_v0_2 p0 p2)), .val (.int 0), .val (.double (FP.i2d p3)), .second, .val (.double (FP.l2d q4)), .second, .val (.ref bn3), .val (.ref bk7_0), .unset, .unset, .unset, .unset, .unset, .unset, .unset, .unset, .unset, .unset, .unset, .unset] [(.double 4598175219545276416), (.int 0), (.ref bk7_2)])) rfl rfl (hb hby at_93)
    have Vwo15 : Arv Z ho15 bk7_2 kk7_3 .double (1 : Int32) [(.double 4598175219545276416)] (.double 0) := Arv.set Aro13 qo13 So13 No13 Ho13 Go13 rfl Wo15 0 rfl (Nat.le_of_ble_eq_true rfl)
    have sz16 : h0.size ≤ ho15.size := Nat.le_trans sz8 (Nat.le_of_eq Wo15.size.symm)
    have Nfo15 := Fr.snoc Xo15 Nk9 g_bk7_2
    have F17 := (Qk7_1.other Wo15 nek7_0)
    obtain ⟨clo18, Aro18, qo18, So18, No18, Ho18, Go18⟩ := id F17
    have hi19 := inb_of (j := (1 : Int32)) So18 ⟨by decide, by decide⟩
    have ha20 : _ = some (Value.ref bk7_4) := Ho18.at hi19 rfl
    have F21 := (Qk7_5.other Wo15 (Ne.symm nek7_2))
    obtain ⟨clo22, Aro22, qo22, So22, No22, Ho22, Go22⟩ := id F21
    have hi23 := inb_of (j := (0 : Int32)) So22 ⟨by decide, by decide⟩
    obtain ⟨To24, ho24, Xo24, eo24, Wo24, sto24⟩ := stD Xo15 hx hZ eo15 Aro22 (j := (0 : Int32)) hi23 (g := (mkF m 102 #[.val (.int p0), .val (.int p1), .val (.int p2), .val (.int p3), .val (.long q4), .second, .val (.int p5), .val (.int (own_v0_0 p0)), .val (.int (own_v0_1 p0 p1)), .val (.int (own_v0_2 p0 p2)), .val (.int 0), .val (.double (FP.i2d p3)), .second, .val (.double (FP.l2d q4)), .second, .val (.ref bn3), .val (.ref bk7_0), .unset, .unset, .unset, .unset, .unset, .unset, .unset, .unset, .unset, .unset, .unset, .unset] [(.double 4598175219545276416), (.int 0), (.ref bk7_4)])) rfl rfl (hb hby at_102)
    have Vwo24 : Arv Z ho24 bk7_4 kk7_5 .double (1 : Int32) [(.double 4598175219545276416)] (.double 0) := Arv.set Aro22 qo22 So22 No22 Ho22 Go22 rfl Wo24 0 rfl (Nat.le_of_ble_eq_true rfl)
    have sz25 : h0.size ≤ ho24.size := Nat.le_trans sz16 (Nat.le_of_eq Wo24.size.symm)
    have Nfo24 := Fr.snoc Xo24 Nfo15 g_bk7_4
    obtain ⟨Tn26, hn26, kn26, Xn26, en26, En26, An26, Exn26, On26, stn26⟩ := newRA Xo24 hx hZ hown (ty := .double) (C := "[D") (by decide) (own_W hw 40 rfl) (own_W hw 31 rfl) eo24 (g := (mkF m 104 #[.val (.int p0), .val (.int p1), .val (.int p2), .val (.int p3), .val (.long q4), .second, .val (.int p5), .val (.int (own_v0_0 p0)), .val (.int (own_v0_1 p0 p1)), .val (.int (own_v0_2 p0 p2)), .val (.int 0), .val (.double (FP.i2d p3)), .second, .val (.double (FP.l2d q4)), .second, .val (.ref bn3), .val (.ref bk7_0), .unset, .unset, .unset, .unset, .unset, .unset, .unset, .unset, .unset, .unset, .unset, .unset] [(.int 2)])) rfl (hb hby at_104) rfl (by decide) (cap := 2) (by decide) (by decide) (by decide) (by decide) (ad := "[[D") (by decide)
    obtain ⟨bn26, gn26⟩ : ∃ z, z = ho24.size := ⟨_, rfl⟩
    rw [← gn26] at An26 Exn26 stn26
    have g_bn26 : n0 ≤ bn26 := Nat.le_trans (Nat.le_trans Z0 sz25) (Nat.le_of_eq gn26.symm)
    have sz_bn26 : h0.size ≤ bn26 := Nat.le_trans sz25 (Nat.le_of_eq gn26.symm)
    have sz27 : h0.size ≤ hn26.size := Nat.le_trans sz25 En26.1
    have V_bn26 : Arv Z hn26 bn26 kn26 (.array .double) (2 : Int32) [.null, .null] .null := (Arv.new An26 (by decide)).pad (pad_rep [] .null 2)
    obtain ⟨Tn28, hn28, kn28, Xn28, en28, En28, An28, Exn28, stn28⟩ := newPE Xn26 hx hZ (own_W hw 10 rfl) en26 (g := (mkF m 110 #[.val (.int p0), .val (.int p1), .val (.int p2), .val (.int p3), .val (.long q4), .second, .val (.int p5), .val (.int (own_v0_0 p0)), .val (.int (own_v0_1 p0 p1)), .val (.int (own_v0_2 p0 p2)), .val (.int 0), .val (.double (FP.i2d p3)), .second, .val (.double (FP.l2d q4)), .second, .val (.ref bn3), .val (.ref bk7_0), .unset, .unset, .unset, .unset, .unset, .unset, .unset, .unset, .unset, .unset, .unset, .unset] [(.int 1), (.int 0), (.ref bn26), (.ref bn26)])) rfl (hb hby at_110) rfl (by decide) (cap := 1) (by decide) (by decide) (by decide) (by decide) (ad := "[D") (by decide)
    obtain ⟨bn28, gn28⟩ : ∃ z, z = hn26.size := ⟨_, rfl⟩
    rw [← gn28] at An28 Exn28 stn28
    have g_bn28 : n0 ≤ bn28 := Nat.le_trans (Nat.le_trans Z0 sz27) (Nat.le_of_eq gn28.symm)
    have sz_bn28 : h0.size ≤ bn28 := Nat.le_trans sz27 (Nat.le_of_eq gn28.symm)
    have sz29 : h0.size ≤ hn28.size := Nat.le_trans sz27 En28.1
    have V_bn28 : Arv Z hn28 bn28 kn28 .double (1 : Int32) [(.double 0)] (.double 0) := (Arv.new An28 (by decide)).pad (pad_rep [] (.double 0) 1)
    obtain ⟨clo30, Aro30, qo30, So30, No30, Ho30, Go30⟩ := id V_bn28
    have hi31 := inb_of (j := (0 : Int32)) So30 ⟨by decide, by decide⟩
    obtain ⟨To32, ho32, Xo32, eo32, Wo32, sto32⟩ := stD Xn28 hx hZ en28 Aro30 (j := (0 : Int32)) hi31 (g := (mkF m 116 #[.val (.int p0), .val (.int p1), .val (.int p2), .val (.int p3), .val (.long q4), .second, .val (.int p5), .val (.int (own_v0_0 p0)), .val (.int (own_v0_1 p0 p1)), .val (.int (own_v0_2 p0 p2)), .val (.int 0), .val (.double (FP.i2d p3)), .second, .val (.double (FP.l2d q4)), .second, .val (.ref bn3), .val (.ref bk7_0), .unset, .unset, .unset, .unset, .unset, .unset, .unset, .unset, .unset, .unset, .unset, .unset] [(.double (FP.i2d p3)), (.int 0), (.ref bn28), (.ref bn28), (.int 0), (.ref bn26), (.ref bn26)])) rfl rfl (hb hby at_116)
    have Vwo32 : Arv Z ho32 bn28 kn28 .double (1 : Int32) [(.double (FP.i2d p3))] (.double 0) := Arv.set Aro30 qo30 So30 No30 Ho30 Go30 rfl Wo32 0 rfl (Nat.le_of_ble_eq_true rfl)
    have sz33 : h0.size ≤ ho32.size := Nat.le_trans sz29 (Nat.le_of_eq Wo32.size.symm)
    have Nfo32 := Fr.snoc Xo32 Nfo24 g_bn28
    have ne34 : bn26 ≠ bn28 := (Nat.ne_of_lt (Nat.lt_of_lt_of_le V_bn26.lt (Nat.le_of_eq gn28.symm)))
    have F35 := ((V_bn26.ext En28).other Wo32 ne34)
    obtain ⟨clo36, Aro36, qo36, So36, No36, Ho36, Go36⟩ := id F35
    have hi37 := inb_of (j := (0 : Int32)) So36 ⟨by decide, by decide⟩
    have F39 := (Exn28.wr Wo32)
    obtain ⟨To38, ho38, Xo38, eo38, Wo38, sto38⟩ := stR Xo32 hx hZ eo32 Aro36 (j := (0 : Int32)) hi37 rfl (Sto.ofVA Aro36 qo36 On26 (Ins.self F39)) (g := (mkF m 117 #[.val (.int p0), .val (.int p1), .val (.int p2), .val (.int p3), .val (.long q4), .second, .val (.int p5), .val (.int (own_v0_0 p0)), .val (.int (own_v0_1 p0 p1)), .val (.int (own_v0_2 p0 p2)), .val (.int 0), .val (.double (FP.i2d p3)), .second, .val (.double (FP.l2d q4)), .second, .val (.ref bn3), .val (.ref bk7_0), .unset, .unset, .unset, .unset, .unset, .unset, .unset, .unset, .unset, .unset, .unset, .unset] [(.ref bn28), (.int 0), (.ref bn26), (.ref bn26)])) rfl rfl (hb hby at_117)
    have Vwo38 : Arv Z ho38 bn26 kn26 (.array .double) (2 : Int32) [(.ref bn28), .null] .null := Arv.set Aro36 qo36 So36 No36 Ho36 Go36 rfl Wo38 0 rfl (Nat.le_of_ble_eq_true rfl)
    have sz40 : h0.size ≤ ho38.size := Nat.le_trans sz33 (Nat.le_of_eq Wo38.size.symm)
    have Nfo38 := Fr.snoc Xo38 Nfo32 g_bn26
    obtain ⟨Tn41, hn41, kn41, Xn41, en41, En41, An41, Exn41, stn41⟩ := newPE Xo38 hx hZ (own_W hw 10 rfl) eo38 (g := (mkF m 121 #[.val (.int p0), .val (.int p1), .val (.int p2), .val (.int p3), .val (.long q4), .second, .val (.int p5), .val (.int (own_v0_0 p0)), .val (.int (own_v0_1 p0 p1)), .val (.int (own_v0_2 p0 p2)), .val (.int 0), .val (.double (FP.i2d p3)), .second, .val (.double (FP.l2d q4)), .second, .val (.ref bn3), .val (.ref bk7_0), .unset, .unset, .unset, .unset, .unset, .unset, .unset, .unset, .unset, .unset, .unset, .unset] [(.int 1), (.int 1), (.ref bn26), (.ref bn26)])) rfl (hb hby at_121) rfl (by decide) (cap := 1) (by decide) (by decide) (by decide) (by decide) (ad := "[D") (by decide)
    obtain ⟨bn41, gn41⟩ : ∃ z, z = ho38.size := ⟨_, rfl⟩
    rw [← gn41] at An41 Exn41 stn41
    have g_bn41 : n0 ≤ bn41 := Nat.le_trans (Nat.le_trans Z0 sz40) (Nat.le_of_eq gn41.symm)
    have sz_bn41 : h0.size ≤ bn41 := Nat.le_trans sz40 (Nat.le_of_eq gn41.symm)
    have sz42 : h0.size ≤ hn41.size := Nat.le_trans sz40 En41.1
    have V_bn41 : Arv Z hn41 bn41 kn41 .double (1 : Int32) [(.double 0)] (.double 0) := (Arv.new An41 (by decide)).pad (pad_rep [] (.double 0) 1)
    obtain ⟨clo43, Aro43, qo43, So43, No43, Ho43, Go43⟩ := id V_bn41
    have hi44 := inb_of (j := (0 : Int32)) So43 ⟨by decide, by decide⟩
    obtain ⟨To45, ho45, Xo45, eo45, Wo45, sto45⟩ := stD Xn41 hx hZ en41 Aro43 (j := (0 : Int32)) hi44 (g := (mkF m 127 #[.val (.int p0), .val (.int p1), .val (.int p2), .val (.int p3), .val (.long q4), .second, .val (.int p5), .val (.int (own_v0_0 p0)), .val (.int (own_v0_1 p0 p1)), .val (.int (own_v0_2 p0 p2)), .val (.int 0), .val (.double (FP.i2d p3)), .second, .val (.double (FP.l2d q4)), .second, .val (.ref bn3), .val (.ref bk7_0), .unset, .unset, .unset, .unset, .unset, .unset, .unset, .unset, .unset, .unset, .unset, .unset] [(.double (FP.l2d q4)), (.int 0), (.ref bn41), (.ref bn41), (.int 1), (.ref bn26), (.ref bn26)])) rfl rfl (hb hby at_127)
    have Vwo45 : Arv Z ho45 bn41 kn41 .double (1 : Int32) [(.double (FP.l2d q4))] (.double 0) := Arv.set Aro43 qo43 So43 No43 Ho43 Go43 rfl Wo45 0 rfl (Nat.le_of_ble_eq_true rfl)
    have sz46 : h0.size ≤ ho45.size := Nat.le_trans sz42 (Nat.le_of_eq Wo45.size.symm)
    have Nfo45 := Fr.snoc Xo45 Nfo38 g_bn41
    have ne47 : bn26 ≠ bn41 := (Nat.ne_of_lt (Nat.lt_of_lt_of_le Vwo38.lt (Nat.le_of_eq gn41.symm)))
    have F48 := ((Vwo38.ext En41).other Wo45 ne47)
    obtain ⟨clo49, Aro49, qo49, So49, No49, Ho49, Go49⟩ := id F48
    have hi50 := inb_of (j := (1 : Int32)) So49 ⟨by decide, by decide⟩
    have F52 := (Exn41.wr Wo45)
    obtain ⟨To51, ho51, Xo51, eo51, Wo51, sto51⟩ := stR Xo45 hx hZ eo45 Aro49 (j := (1 : Int32)) hi50 rfl (Sto.ofVA Aro49 qo49 On26 (Ins.self F52)) (g := (mkF m 128 #[.val (.int p0), .val (.int p1), .val (.int p2), .val (.int p3), .val (.long q4), .second, .val (.int p5), .val (.int (own_v0_0 p0)), .val (.int (own_v0_1 p0 p1)), .val (.int (own_v0_2 p0 p2)), .val (.int 0), .val (.double (FP.i2d p3)), .second, .val (.double (FP.l2d q4)), .second, .val (.ref bn3), .val (.ref bk7_0), .unset, .unset, .unset, .unset, .unset, .unset, .unset, .unset, .unset, .unset, .unset, .unset] [(.ref bn41), (.int 1), (.ref bn26), (.ref bn26)])) rfl rfl (hb hby at_128)
    have Vwo51 : Arv Z ho51 bn26 kn26 (.array .double) (2 : Int32) [(.ref bn28), (.ref bn41)] .null := Arv.set Aro49 qo49 So49 No49 Ho49 Go49 rfl Wo51 1 rfl (Nat.le_of_ble_eq_true rfl)
    have sz53 : h0.size ≤ ho51.size := Nat.le_trans sz46 (Nat.le_of_eq Wo51.size.symm)
    have Nfo51 := Fr.snoc Xo51 Nfo45 g_bn26
    have ne55 : bk5_0 ≠ bn3 := (Ne.symm (Nat.ne_of_lt (Nat.lt_of_lt_of_le F_trialCrossoverRates_bn3.lt lebk5_0)))
    have ne56 : bk5_0 ≠ bk7_2 := (Nat.ne_of_lt (Nat.lt_of_lt_of_le Qk5_5.lt lebk7_2))
    have ne57 : bk5_0 ≠ bk7_4 := (Nat.ne_of_lt (Nat.lt_of_lt_of_le Qk5_5.lt lebk7_4))
    have ne58 : bk5_0 ≠ bn26 := (Ne.symm (Ne.symm (Nat.ne_of_lt (Nat.lt_of_lt_of_le (((Qk5_5.keep Kk7 nin0).other Wo15 ne56).other Wo24 ne57).lt (Nat.le_of_eq gn26.symm)))))
    have ne59 : bk5_0 ≠ bn28 := (Nat.ne_of_lt (Nat.lt_of_lt_of_le ((((Qk5_5.keep Kk7 nin0).other Wo15 ne56).other Wo24 ne57).ext En26).lt (Nat.le_of_eq gn28.symm)))
    have ne60 : bk5_0 ≠ bn41 := (Nat.ne_of_lt (Nat.lt_of_lt_of_le (((((((Qk5_5.keep Kk7 nin0).other Wo15 ne56).other Wo24 ne57).ext En26).ext En28).other Wo32 ne59).other Wo38 ne58).lt (Nat.le_of_eq gn41.symm)))
    have ne61 : bk7_2 ≠ bn3 := (Ne.symm (Nat.ne_of_lt (Nat.lt_of_lt_of_le Qk5_4.lt lebk7_2)))
    have ne62 : bk7_4 ≠ bn3 := (Ne.symm (Nat.ne_of_lt (Nat.lt_of_lt_of_le Qk5_4.lt lebk7_4)))
    have ne63 : bn28 ≠ bn3 := (Ne.symm (Nat.ne_of_lt (Nat.lt_of_lt_of_le ((((Qk5_4.keep Kk7 nin0).other Wo15 (Or.inl (Ne.symm ne61))).other Wo24 (Or.inl (Ne.symm ne62))).ext En26).lt (Nat.le_of_eq gn28.symm))))
    have ne64 : bn26 ≠ bn3 := (Ne.symm (Nat.ne_of_lt (Nat.lt_of_lt_of_le (((Qk5_4.keep Kk7 nin0).other Wo15 (Or.inl (Ne.symm ne61))).other Wo24 (Or.inl (Ne.symm ne62))).lt (Nat.le_of_eq gn26.symm))))
    have ne65 : bn3 ≠ bn41 := (Nat.ne_of_lt (Nat.lt_of_lt_of_le (((((((Qk5_4.keep Kk7 nin0).other Wo15 (Or.inl (Ne.symm ne61))).other Wo24 (Or.inl (Ne.symm ne62))).ext En26).ext En28).other Wo32 (Or.inl (Ne.symm ne63))).other Wo38 (Or.inl (Ne.symm ne64))).lt (Nat.le_of_eq gn41.symm)))
    have F66 := ((((((((((Qk5_1.keep Kk7 nin0).other Wo15 (Or.inl (Ne.symm ne61))).other Wo24 (Or.inl (Ne.symm ne62))).ext En26).ext En28).other Wo32 (Or.inl (Ne.symm ne63))).other Wo38 (Or.inl (Ne.symm ne64))).ext En41).other Wo45 (Or.inl ne65)).other Wo51 (Or.inl (Ne.symm ne64)))
    have ne67 : bn28 ≠ bn41 := (Nat.ne_of_lt (Nat.lt_of_lt_of_le (F39.wr Wo38).lt (Nat.le_of_eq gn41.symm)))
    have F68 := ((((Vwo32.other Wo38 (Ne.symm ne34)).ext En41).other Wo45 ne67).other Wo51 (Ne.symm ne34))
    have F69 := ((((((((((Qk5_5.keep Kk7 nin0).other Wo15 ne56).other Wo24 ne57).ext En26).ext En28).other Wo32 ne59).other Wo38 ne58).ext En41).other Wo45 ne60).other Wo51 ne58)
    have F70 := ((((((((((Qk5_2.keep Kk7 nin0).other Wo15 (Or.inl (Ne.symm ne61))).other Wo24 (Or.inl (Ne.symm ne62))).ext En26).ext En28).other Wo32 (Or.inl (Ne.symm ne63))).other Wo38 (Or.inl (Ne.symm ne64))).ext En41).other Wo45 (Or.inl ne65)).other Wo51 (Or.inl (Ne.symm ne64)))
    have F71 := (Vwo45.other Wo51 (Ne.symm ne47))
    have ne72 : bk5_2 ≠ bk7_2 := (Nat.ne_of_lt (Nat.lt_of_lt_of_le Qk5_6.lt lebk7_2))
    have ne73 : bk5_2 ≠ bk7_4 := (Nat.ne_of_lt (Nat.lt_of_lt_of_le Qk5_6.lt lebk7_4))
    have ne74 : bk5_2 ≠ bn28 := (Nat.ne_of_lt (Nat.lt_of_lt_of_le ((((Qk5_6.keep Kk7 nin0).other Wo15 ne72).other Wo24 ne73).ext En26).lt (Nat.le_of_eq gn28.symm)))
    have ne75 : bk5_2 ≠ bn26 := (Nat.ne_of_lt (Nat.lt_of_lt_of_le (((Qk5_6.keep Kk7 nin0).other Wo15 ne72).other Wo24 ne73).lt (Nat.le_of_eq gn26.symm)))
    have ne76 : bk5_2 ≠ bn41 := (Nat.ne_of_lt (Nat.lt_of_lt_of_le (((((((Qk5_6.keep Kk7 nin0).other Wo15 ne72).other Wo24 ne73).ext En26).ext En28).other Wo32 ne74).other Wo38 ne75).lt (Nat.le_of_eq gn41.symm)))
    have F77 := ((((((((((Qk5_6.keep Kk7 nin0).other Wo15 ne72).other Wo24 ne73).ext En26).ext En28).other Wo32 ne74).other Wo38 ne75).ext En41).other Wo45 ne76).other Wo51 ne75)
    have F78 := ((((((((((Qk5_0.keep Kk7).wr Wo15).wr Wo24).ext En26).ext En28).wr Wo32).wr Wo38).ext En41).wr Wo45).wr Wo51)
    obtain ⟨cqk54, kqk54, qk54a, qk54b, qk54c⟩ := isOf hZ eo51 F78
    obtain ⟨_, _, ⟨Tk54, Lk54, kk54, nk54⟩, -, Xk54, ⟨Lck54, hQk54, lk54, yk54, zk54⟩, stk54⟩ := Xo51.virtualBack hx (y := (⟨"com/example/evoluta/evoluta/algorithms/de/Jde$SelfAdaptation", "setParameters", "(I[[D)V"⟩ : MethodName)) (z := (⟨"com/example/evoluta/evoluta/algorithms/de/Jde$SelfAdaptation", "setParameters", "(I[[D)V"⟩ : MethodName)) hown (mvT hZ (own_W hw 41 rfl)) (mvT hZ (own_W hw 42 rfl)) (notFace_of_selects (args := #[]) (mvT hZ (own_W hw 44 rfl))) (mvT hZ (own_W hw 44 rfl)) (mvT hZ (own_W hw 43 rfl)) (by decide) (backOf (W := 0) (own_rm6 l Z a0 hw [] bn3 (own_v0_1 p0 p1) bn26 bk5_0 kn26 bn28 bn41 kn28 (FP.i2d p3) kk5_1 (own_v0_0 p0) (own_cst (4602678819172646912 : UInt64)) bk5_2 kn41 (FP.l2d q4) kk5_3 (own_v0_0 p0) (own_cst (4606281698874543309 : UInt64)) ho51 n0 (Nat.le_trans Z0 sz53) F66 Vwo51 F68 F69 g_bk5_0 F70 F71 F77 g_bk5_2 (c137_in10 hs1) (Ne.symm ne55) (Ne.symm ne58) ne60 (Ne.symm nek5_0) (c137_in10 hs1)) hZ (own_W hw 45 rfl) (own_W hw 3 rfl) (by decide) (by decide)) qk54a qk54c (g := (mkF m 137 #[.val (.int p0), .val (.int p1), .val (.int p2), .val (.int p3), .val (.long q4), .second, .val (.int p5), .val (.int (own_v0_0 p0)), .val (.int (own_v0_1 p0 p1)), .val (.int (own_v0_2 p0 p2)), .val (.int 0), .val (.double (FP.i2d p3)), .second, .val (.double (FP.l2d q4)), .second, .val (.ref bn3), .val (.ref bk7_0), .val (.ref bn26), .unset, .unset, .unset, .unset, .unset, .unset, .unset, .unset, .unset, .unset, .unset] [(.ref bn26), (.int (own_v0_1 p0 p1)), (.ref bn3)])) rfl (by rw [hml]; rfl) (Steps.refl _) (argsL := [(.int (own_v0_1 p0 p1)), (.ref bn26)]) (rest := []) (lenOf own_pd4 rfl) rfl (by show 2 * 0 + _ ≤ _; exact Nat.le_of_eq rfl) (hb hby at_137) (fun _ _ => ⟨rfl, eo51, (by decide : 11 + 0 ≤ _), (by decide : 44 + 0 ≤ _)⟩)
    dsimp only [Pt.U, Pt.locs, Pt.cells, Pt.slots] at Xk54 lk54 yk54 zk54 stk54 hQk54
    replace lk54 := lk54.symm; replace yk54 := yk54.symm; replace zk54 := zk54.symm; subst lk54 yk54 zk54
    obtain ⟨rfl, Nk54q, Kk54, Qk54_0, Qk54_1⟩ := hQk54
    have sz79 : h0.size ≤ Tk54.heap.size := Nat.le_trans sz53 Kk54.1
    have Nk54 := Fr.app Nfo51 Nk54q
    have ne81 : bk5_2 ≠ bn3 := (Ne.symm (Nat.ne_of_lt (Nat.lt_of_lt_of_le F_trialCrossoverRates_bn3.lt lebk5_2)))
    have F82 := (F66.keep Kk54 (ninS (Ne.symm ne55) (ninS (Ne.symm ne81) nin0)))
    have F83 := (F70.keep Kk54 (ninS (Ne.symm ne55) (ninS (Ne.symm ne81) nin0)))
    have F84 := (F78.keep Kk54)
    obtain ⟨cqk80, kqk80, qk80a, qk80b, qk80c⟩ := isOf hZ rfl F84
    obtain ⟨_, _, ⟨Tk80, Lk80, kk80, nk80⟩, -, Xk80, ⟨Lck80, hQk80, lk80, yk80, zk80⟩, stk80⟩ := Xk54.virtualBack hx (y := (⟨"com/example/evoluta/evoluta/algorithms/de/Jde$SelfAdaptation", "parameters", "(I)[[D"⟩ : MethodName)) (z := (⟨"com/example/evoluta/evoluta/algorithms/de/Jde$SelfAdaptation", "parameters", "(I)[[D"⟩ : MethodName)) hown (mvT hZ (own_W hw 25 rfl)) (mvT hZ (own_W hw 26 rfl)) (notFace_of_selects (args := #[]) (mvT hZ (own_W hw 28 rfl))) (mvT hZ (own_W hw 28 rfl)) (mvT hZ (own_W hw 27 rfl)) (by decide) (backOf (W := 0) (own_rm4 l Z a0 hw [] bn3 (own_v0_1 p0 p1) bk5_0 kk5_1 (own_v0_0 p0) (own_upd (own_cst (4602678819172646912 : UInt64)) (own_v0_1 p0 p1) (FP.i2d p3)) bk5_2 kk5_3 (own_v0_0 p0) (own_upd (own_cst (4606281698874543309 : UInt64)) (own_v0_1 p0 p1) (FP.l2d q4)) Tk54.heap n0 (Nat.le_trans Z0 sz79) F82 Qk54_0 F83 Qk54_1 (c137_in10 hs1) (c137_in10 hs1)) hZ (own_W hw 29 rfl) (own_W hw 3 rfl) (by decide) (by decide)) qk80a qk80c (g := (mkF m 144 #[.val (.int p0), .val (.int p1), .val (.int p2), .val (.int p3), .val (.long q4), .second, .val (.int p5), .val (.int (own_v0_0 p0)), .val (.int (own_v0_1 p0 p1)), .val (.int (own_v0_2 p0 p2)), .val (.int 0), .val (.double (FP.i2d p3)), .second, .val (.double (FP.l2d q4)), .second, .val (.ref bn3), .val (.ref bk7_0), .val (.ref bn26), .unset, .unset, .unset, .unset, .unset, .unset, .unset, .unset, .unset, .unset, .unset] [(.int (own_v0_1 p0 p1)), (.ref bn3)])) rfl (by rw [hml]; rfl) (Steps.refl _) (argsL := [(.int (own_v0_1 p0 p1))]) (rest := []) (lenOf own_pd2 rfl) rfl (by show 2 * 0 + _ ≤ _; exact Nat.le_of_eq rfl) (hb hby at_144) (fun _ _ => ⟨rfl, rfl, (by decide : 11 + 3 ≤ _), (by decide : 44 + 4 ≤ _)⟩)
    dsimp only [Pt.U, Pt.locs, Pt.cells, Pt.slots] at Xk80 lk80 yk80 zk80 stk80 hQk80
    replace lk80 := lk80.symm; replace yk80 := yk80.symm; replace zk80 := zk80.symm; subst lk80 yk80 zk80
    obtain ⟨bk80_0, kk80_1, bk80_2, kk80_3, bk80_4, kk80_5, rfl, Nk80q, Kk80, lebk80_0, lebk80_2, lebk80_4, nek80_0, nek80_1, nek80_2, Qk80_0, Qk80_1, Qk80_2, Qk80_3, Qk80_4, Qk80_5⟩ := hQk80
    have g_bk80_0 : n0 ≤ bk80_0 := Nat.le_trans (Nat.le_trans Z0 sz79) lebk80_0
    have sz_bk80_0 : h0.size ≤ bk80_0 := Nat.le_trans sz79 lebk80_0
    have g_bk80_2 : n0 ≤ bk80_2 := Nat.le_trans (Nat.le_trans Z0 sz79) lebk80_2
    have sz_bk80_2 : h0.size ≤ bk80_2 := Nat.le_trans sz79 lebk80_2
    have g_bk80_4 : n0 ≤ bk80_4 := Nat.le_trans (Nat.le_trans Z0 sz79) lebk80_4
    have sz_bk80_4 : h0.size ≤ bk80_4 := Nat.le_trans sz79 lebk80_4
    have sz85 : h0.size ≤ Tk80.heap.size := Nat.le_trans sz79 Kk80.1
    have Nk80 := Fr.app Nk54 Nk80q
    obtain ⟨_, _, ⟨Tk86, Lk86, kk86, nk86⟩, -, Xk86, ⟨Lck86, hQk86, lk86, yk86, zk86⟩, stk86⟩ := Jvm.LawKit.callS Xk80 hx (y := (⟨"com/example/evoluta/evoluta/algorithms/de/SelfAdaptationParametersPinLaw", "is", "([[DDD)Z"⟩ : MethodName)) hown (mvT hZ (own_W hw 35 rfl)) (mvT hZ (own_W hw 36 rfl)) (mvT hZ (own_W hw 37 rfl)) (mvT hZ (own_W hw 38 rfl)) (by decide) (backOf (W := 0) (own_rm5 l Z a0 hw [] bk80_0 (FP.i2d p3) (FP.l2d q4) kk80_1 bk80_2 bk80_4 kk80_3 (own_v4_0 (own_v0_1 p0 p1) (own_upd (own_cst (4602678819172646912 : UInt64)) (own_v0_1 p0 p1) (FP.i2d p3))) kk80_5 (own_v4_1 (own_v0_1 p0 p1) (own_upd (own_cst (4606281698874543309 : UInt64)) (own_v0_1 p0 p1) (FP.l2d q4))) Tk80.heap n0 (Nat.le_trans Z0 sz85) Qk80_1 Qk80_3 Qk80_5 (c155_hc51 hs1) (c155_hc61 hs1)) hZ (own_W hw 38 rfl) (own_W hw 37 rfl) (by decide) (by decide)) (g := (mkF m 155 #[.val (.int p0), .val (.int p1), .val (.int p2), .val (.int p3), .val (.long q4), .second, .val (.int p5), .val (.int (own_v0_0 p0)), .val (.int (own_v0_1 p0 p1)), .val (.int (own_v0_2 p0 p2)), .val (.int 0), .val (.double (FP.i2d p3)), .second, .val (.double (FP.l2d q4)), .second, .val (.ref bn3), .val (.ref bk7_0), .val (.ref bn26), .val (.ref bk80_0), .unset, .unset, .unset, .unset, .unset, .unset, .unset, .unset, .unset, .unset] [(.double (FP.l2d q4)), (.double (FP.i2d p3)), (.ref bk80_0)])) rfl (by rw [hml]; rfl) (argsL := [(.ref bk80_0), (.double (FP.i2d p3)), (.double (FP.l2d q4))]) (rest := []) (lenOf own_pd3 rfl) rfl (by show 2 * 0 + _ ≤ _; exact Nat.le_of_eq rfl) (hb hby at_155) (fun _ _ => ⟨rfl, rfl, (by decide : 14 + 0 ≤ _), (by decide : 48 + 0 ≤ _)⟩)
    dsimp only [Pt.U, Pt.locs, Pt.cells, Pt.slots] at Xk86 lk86 yk86 zk86 stk86 hQk86
    replace lk86 := lk86.symm; replace yk86 := yk86.symm; replace zk86 := zk86.symm; subst lk86 yk86 zk86
    obtain ⟨rfl, Nk86q, ek86⟩ := hQk86
    have Nk86 := Fr.app Nk80 Nk86q
    obtain ⟨clo87, Aro87, qo87, So87, No87, Ho87, Go87⟩ := id Qk80_1
    have hi88 := inb_of (j := (0 : Int32)) So87 ⟨by decide, by decide⟩
    have ha89 : _ = some (Value.ref bk80_2) := Ho87.at hi88 rfl
    obtain ⟨clo90, Aro90, qo90, So90, No90, Ho90, Go90⟩ := id Qk80_3
    have hi91 := inb_of (j := (0 : Int32)) So90 ⟨by decide, by decide⟩
    obtain ⟨To92, ho92, Xo92, eo92, Wo92, sto92⟩ := stD Xk86 hx hZ ek86 Aro90 (j := (0 : Int32)) hi91 (g := (mkF m 171 #[.val (.int p0), .val (.int p1), .val (.int p2), .val (.int p3), .val (.long q4), .second, .val (.int p5), .val (.int (own_v0_0 p0)), .val (.int (own_v0_1 p0 p1)), .val (.int (own_v0_2 p0 p2)), .val (.int 0), .val (.double (FP.i2d p3)), .second, .val (.double (FP.l2d q4)), .second, .val (.ref bn3), .val (.ref bk7_0), .val (.ref bn26), .val (.ref bk80_0), .unset, .unset, .unset, .unset, .unset, .unset, .unset, .unset, .unset, .unset] [(.double 4598175219545276416), (.int 0), (.ref bk80_2)])) rfl rfl (hb hby at_171)
    have Vwo92 : Arv Z ho92 bk80_2 kk80_3 .double (1 : Int32) [(.double 4598175219545276416)] (.double 0) := Arv.set Aro90 qo90 So90 No90 Ho90 Go90 rfl Wo92 0 rfl (Nat.le_of_ble_eq_true rfl)
    have sz93 : h0.size ≤ ho92.size := Nat.le_trans sz85 (Nat.le_of_eq Wo92.size.symm)
    have Nfo92 := Fr.snoc Xo92 Nk86 g_bk80_2
    have F94 := (Qk80_1.other Wo92 nek80_0)
    obtain ⟨clo95, Aro95, qo95, So95, No95, Ho95, Go95⟩ := id F94
    have hi96 := inb_of (j := (1 : Int32)) So95 ⟨by decide, by decide⟩
    have ha97 : _ = some (Value.ref bk80_4) := Ho95.at hi96 rfl
    have F98 := (Qk80_5.other Wo92 (Ne.symm nek80_2))
    obtain ⟨clo99, Aro99, qo99, So99, No99, Ho99, Go99⟩ := id F98
    have hi100 := inb_of (j := (0 : Int32)) So99 ⟨by decide, by decide⟩
    obtain ⟨To101, ho101, Xo101, eo101, Wo101, sto101⟩ := stD Xo92 hx hZ eo92 Aro99 (j := (0 : Int32)) hi100 (g := (mkF m 180 #[.val (.int p0), .val (.int p1), .val (.int p2), .val (.int p3), .val (.long q4), .second, .val (.int p5), .val (.int (own_v0_0 p0)), .val (.int (own_v0_1 p0 p1)), .val (.int (own_v0_2 p0 p2)), .val (.int 0), .val (.double (FP.i2d p3)), .second, .val (.double (FP.l2d q4)), .second, .val (.ref bn3), .val (.ref bk7_0), .val (.ref bn26), .val (.ref bk80_0), .unset, .unset, .unset, .unset, .unset, .unset, .unset, .unset, .unset, .unset] [(.double 4598175219545276416), (.int 0), (.ref bk80_4)])) rfl rfl (hb hby at_180)
    have Vwo101 : Arv Z ho101 bk80_4 kk80_5 .double (1 : Int32) [(.double 4598175219545276416)] (.double 0) := Arv.set Aro99 qo99 So99 No99 Ho99 Go99 rfl Wo101 0 rfl (Nat.le_of_ble_eq_true rfl)
    have sz102 : h0.size ≤ ho101.size := Nat.le_trans sz93 (Nat.le_of_eq Wo101.size.symm)
    have Nfo101 := Fr.snoc Xo101 Nfo92 g_bk80_4
    have ne104 : bk80_2 ≠ bn3 := (Ne.symm (Nat.ne_of_lt (Nat.lt_of_lt_of_le F84.lt lebk80_2)))
    have ne105 : bk80_4 ≠ bn3 := (Ne.symm (Nat.ne_of_lt (Nat.lt_of_lt_of_le F84.lt lebk80_4)))
    have F106 := (((F82.keep Kk80 nin0).other Wo92 (Or.inl (Ne.symm ne104))).other Wo101 (Or.inl (Ne.symm ne105)))
    have ne107 : bk5_0 ≠ bk80_2 := (Nat.ne_of_lt (Nat.lt_of_lt_of_le Qk54_0.lt lebk80_2))
    have ne108 : bk5_0 ≠ bk80_4 := (Nat.ne_of_lt (Nat.lt_of_lt_of_le Qk54_0.lt lebk80_4))
    have F109 := (((Qk54_0.keep Kk80 nin0).other Wo92 ne107).other Wo101 ne108)
    have F110 := (((F83.keep Kk80 nin0).other Wo92 (Or.inl (Ne.symm ne104))).other Wo101 (Or.inl (Ne.symm ne105)))
    have ne111 : bk5_2 ≠ bk80_2 := (Nat.ne_of_lt (Nat.lt_of_lt_of_le Qk54_1.lt lebk80_2))
    have ne112 : bk5_2 ≠ bk80_4 := (Nat.ne_of_lt (Nat.lt_of_lt_of_le Qk54_1.lt lebk80_4))
    have F113 := (((Qk54_1.keep Kk80 nin0).other Wo92 ne111).other Wo101 ne112)
    have F114 := (((F84.keep Kk80).wr Wo92).wr Wo101)
    obtain ⟨cqk103, kqk103, qk103a, qk103b, qk103c⟩ := isOf hZ eo101 F114
    obtain ⟨_, _, ⟨Tk103, Lk103, kk103, nk103⟩, -, Xk103, ⟨Lck103, hQk103, lk103, yk103, zk103⟩, stk103⟩ := Xo101.virtualBack hx (y := (⟨"com/example/evoluta/evoluta/algorithms/de/Jde$SelfAdaptation", "parameters", "(I)[[D"⟩ : MethodName)) (z := (⟨"com/example/evoluta/evoluta/algorithms/de/Jde$SelfAdaptation", "parameters", "(I)[[D"⟩ : MethodName)) hown (mvT hZ (own_W hw 25 rfl)) (mvT hZ (own_W hw 26 rfl)) (notFace_of_selects (args := #[]) (mvT hZ (own_W hw 28 rfl))) (mvT hZ (own_W hw 28 rfl)) (mvT hZ (own_W hw 27 rfl)) (by decide) (backOf (W := 0) (own_rm4 l Z a0 hw [] bn3 (own_v0_1 p0 p1) bk5_0 kk5_1 (own_v0_0 p0) (own_upd (own_cst (4602678819172646912 : UInt64)) (own_v0_1 p0 p1) (FP.i2d p3)) bk5_2 kk5_3 (own_v0_0 p0) (own_upd (own_cst (4606281698874543309 : UInt64)) (own_v0_1 p0 p1) (FP.l2d q4)) ho101 n0 (Nat.le_trans Z0 sz102) F106 F109 F110 F113 (c137_in10 hs1) (c137_in10 hs1)) hZ (own_W hw 29 rfl) (own_W hw 3 rfl) (by decide) (by decide)) qk103a qk103c (g := (mkF m 237 #[.val (.int p0), .val (.int p1), .val (.int p2), .val (.int p3), .val (.long q4), .second, .val (.int p5), .val (.int (own_v0_0 p0)), .val (.int (own_v0_1 p0 p1)), .val (.int (own_v0_2 p0 p2)), .val (.int 0), .val (.double (FP.i2d p3)), .second, .val (.double (FP.l2d q4)), .second, .val (.ref bn3), .val (.ref bk7_0), .val (.ref bn26), .val (.ref bk80_0), .val (.double (FP.i2d p3)), .second, .val (.double (FP.l2d q4)), .second, .unset, .unset, .unset, .unset, .unset, .unset] [(.int (own_v0_1 p0 p1)), (.ref bn3)])) rfl (by rw [hml]; rfl) (Steps.refl _) (argsL := [(.int (own_v0_1 p0 p1))]) (rest := []) (lenOf own_pd2 rfl) rfl (by show 2 * 0 + _ ≤ _; exact Nat.le_of_eq rfl) (hb hby at_237) (fun _ _ => ⟨rfl, eo101, (by decide : 14 + 3 ≤ _), (by decide : 48 + 4 ≤ _)⟩)
    dsimp only [Pt.U, Pt.locs, Pt.cells, Pt.slots] at Xk103 lk103 yk103 zk103 stk103 hQk103
    replace lk103 := lk103.symm; replace yk103 := yk103.symm; replace zk103 := zk103.symm; subst lk103 yk103 zk103
    obtain ⟨bk103_0, kk103_1, bk103_2, kk103_3, bk103_4, kk103_5, rfl, Nk103q, Kk103, lebk103_0, lebk103_2, lebk103_4, nek103_0, nek103_1, nek103_2, Qk103_0, Qk103_1, Qk103_2, Qk103_3, Qk103_4, Qk103_5⟩ := hQk103
    have g_bk103_0 : n0 ≤ bk103_0 := Nat.le_trans (Nat.le_trans Z0 sz102) lebk103_0
    have sz_bk103_0 : h0.size ≤ bk103_0 := Nat.le_trans sz102 lebk103_0
    have g_bk103_2 : n0 ≤ bk103_2 := Nat.le_trans (Nat.le_trans Z0 sz102) lebk103_2
    have sz_bk103_2 : h0.size ≤ bk103_2 := Nat.le_trans sz102 lebk103_2
    have g_bk103_4 : n0 ≤ bk103_4 := Nat.le_trans (Nat.le_trans Z0 sz102) lebk103_4
    have sz_bk103_4 : h0.size ≤ bk103_4 := Nat.le_trans sz102 lebk103_4
    have sz115 : h0.size ≤ Tk103.heap.size := Nat.le_trans sz102 Kk103.1
    have Nk103 := Fr.app Nfo101 Nk103q
    obtain ⟨_, _, ⟨Tk116, Lk116, kk116, nk116⟩, -, Xk116, ⟨Lck116, hQk116, lk116, yk116, zk116⟩, stk116⟩ := Jvm.LawKit.callS Xk103 hx (y := (⟨"com/example/evoluta/evoluta/algorithms/de/SelfAdaptationParametersPinLaw", "is", "([[DDD)Z"⟩ : MethodName)) hown (mvT hZ (own_W hw 35 rfl)) (mvT hZ (own_W hw 36 rfl)) (mvT hZ (own_W hw 37 rfl)) (mvT hZ (own_W hw 38 rfl)) (by decide) (backOf (W := 0) (own_rm5 l Z a0 hw [] bk103_0 (FP.i2d p3) (FP.l2d q4) kk103_1 bk103_2 bk103_4 kk103_3 (own_v4_0 (own_v0_1 p0 p1) (own_upd (own_cst (4602678819172646912 : UInt64)) (own_v0_1 p0 p1) (FP.i2d p3))) kk103_5 (own_v4_1 (own_v0_1 p0 p1) (own_upd (own_cst (4606281698874543309 : UInt64)) (own_v0_1 p0 p1) (FP.l2d q4))) Tk103.heap n0 (Nat.le_trans Z0 sz115) Qk103_1 Qk103_3 Qk103_5 (c155_hc51 hs1) (c155_hc61 hs1)) hZ (own_W hw 38 rfl) (own_W hw 37 rfl) (by decide) (by decide)) (g := (mkF m 248 #[.val (.int p0), .val (.int p1), .val (.int p2), .val (.int p3), .val (.long q4), .second, .val (.int p5), .val (.int (own_v0_0 p0)), .val (.int (own_v0_1 p0 p1)), .val (.int (own_v0_2 p0 p2)), .val (.int 0), .val (.double (FP.i2d p3)), .second, .val (.double (FP.l2d q4)), .second, .val (.ref bn3), .val (.ref bk7_0), .val (.ref bn26), .val (.ref bk80_0), .val (.double (FP.i2d p3)), .second, .val (.double (FP.l2d q4)), .second, .val (.ref bk103_0), .unset, .unset, .unset, .unset, .unset] [(.double (FP.l2d q4)), (.double (FP.i2d p3)), (.ref bk103_0)])) rfl (by rw [hml]; rfl) (argsL := [(.ref bk103_0), (.double (FP.i2d p3)), (.double (FP.l2d q4))]) (rest := []) (lenOf own_pd3 rfl) rfl (by show 2 * 0 + _ ≤ _; exact Nat.le_of_eq rfl) (hb hby at_248) (fun _ _ => ⟨rfl, rfl, (by decide : 17 + 0 ≤ _), (by decide : 52 + 0 ≤ _)⟩)
    dsimp only [Pt.U, Pt.locs, Pt.cells, Pt.slots] at Xk116 lk116 yk116 zk116 stk116 hQk116
    replace lk116 := lk116.symm; replace yk116 := yk116.symm; replace zk116 := zk116.symm; subst lk116 yk116 zk116
    obtain ⟨rfl, Nk116q, ek116⟩ := hQk116
    have Nk116 := Fr.app Nk103 Nk116q
    obtain ⟨Tj117, lj117, Xj117, Nj117, ej117, stj117⟩ : ∃ (T' : State) (l' : List Loc), Stand p l e room_1 s m #[(.int p0), (.int p1), (.int p2), (.int p3), (.long q4), (.int p5)] below meth c T' l' 17 52 ∧ Fr n0 l' ∧ T'.heap = Tk103.heap ∧ ∀ target, Steps p.tables e below (T'.setTop (mkF m 298 #[.val (.int p0), .val (.int p1), .val (.int p2), .val (.int p3), .val (.long q4), .second, .val (.int p5), .val (.int (own_v0_0 p0)), .val (.int (own_v0_1 p0 p1)), .val (.int (own_v0_2 p0 p2)), .val (.int 0), .val (.double (FP.i2d p3)), .second, .val (.double (FP.l2d q4)), .second, .val (.ref bn3), .val (.ref bk7_0), .val (.ref bn26), .val (.ref bk80_0), .val (.double (FP.i2d p3)), .second, .val (.double (FP.l2d q4)), .second, .val (.ref bk103_0), .val (.double (own_j0_3 p0 p1 p2 p3)), .second, .val (.double (own_j0_4 p0 p1 p2 q4)), .second, .unset] [])) target → Steps p.tables e below (Tk116.setTop (mkF m 274 #[.val (.int p0), .val (.int p1), .val (.int p2), .val (.int p3), .val (.long q4), .second, .val (.int p5), .val (.int (own_v0_0 p0)), .val (.int (own_v0_1 p0 p1)), .val (.int (own_v0_2 p0 p2)), .val (.int 0), .val (.double (FP.i2d p3)), .second, .val (.double (FP.l2d q4)), .second, .val (.ref bn3), .val (.ref bk7_0), .val (.ref bn26), .val (.ref bk80_0), .val (.double (FP.i2d p3)), .second, .val (.double (FP.l2d q4)), .second, .val (.ref bk103_0), .unset, .unset, .unset, .unset, .unset] [(.int (own_v0_1 p0 p1)), (.int (own_v0_2 p0 p2))])) target := by
      by_cases hj117 : (own_v0_2 p0 p2) = (own_v0_1 p0 p1)
      · refine ⟨_, _, Xk116, Nk116, ek116, fun target kt => ?_⟩
        rw [(show (own_j0_3 p0 p1 p2 p3) = (FP.i2d p3) from if_pos hj117), (show (own_j0_4 p0 p1 p2 q4) = (FP.l2d q4) from if_pos hj117)] at kt
        show Steps p.tables e below (Tk116.setTop (mkF m 274 #[.val (.int p0), .val (.int p1), .val (.int p2), .val (.int p3), .val (.long q4), .second, .val (.int p5), .val (.int (own_v0_0 p0)), .val (.int (own_v0_1 p0 p1)), .val (.int (own_v0_2 p0 p2)), .val (.int 0), .val (.double (FP.i2d p3)), .second, .val (.double (FP.l2d q4)), .second, .val (.ref bn3), .val (.ref bk7_0), .val (.ref bn26), .val (.ref bk80_0), .val (.double (FP.i2d p3)), .second, .val (.double (FP.l2d q4)), .second, .val (.ref bk103_0), .unset, .unset, .unset, .unset, .unset] [(.int (own_v0_1 p0 p1)), (.int (own_v0_2 p0 p2))])) _
        refine XS.icmpNo Xk116.here hx rfl (hb hby at_274) rfl (XT.ii_ne_f hj117) ?_
        refine XS.dload Xk116.here hx rfl (hb hby at_277) rfl ?_
        refine XS.dstore Xk116.here hx rfl (hb hby at_279) rfl (l' := #[.val (.int p0), .val (.int p1), .val (.int p2), .val (.int p3), .val (.long q4), .second, .val (.int p5), .val (.int (own_v0_0 p0)), .val (.int (own_v0_1 p0 p1)), .val (.int (own_v0_2 p0 p2)), .val (.int 0), .val (.double (FP.i2d p3)), .second, .val (.double (FP.l2d q4)), .second, .val (.ref bn3), .val (.ref bk7_0), .val (.ref bn26), .val (.ref bk80_0), .val (.double (FP.i2d p3)), .second, .val (.double (FP.l2d q4)), .second, .val (.ref bk103_0), .val (.double (FP.i2d p3)), .second, .unset, .unset, .unset]) rfl ?_
        refine XS.dload Xk116.here hx rfl (hb hby at_281) rfl ?_
        refine XS.dstore Xk116.here hx rfl (hb hby at_283) rfl (l' := #[.val (.int p0), .val (.int p1), .val (.int p2), .val (.int p3), .val (.long q4), .second, .val (.int p5), .val (.int (own_v0_0 p0)), .val (.int (own_v0_1 p0 p1)), .val (.int (own_v0_2 p0 p2)), .val (.int 0), .val (.double (FP.i2d p3)), .second, .val (.double (FP.l2d q4)), .second, .val (.ref bn3), .val (.ref bk7_0), .val (.ref bn26), .val (.ref bk80_0), .val (.double (FP.i2d p3)), .second, .val (.double (FP.l2d q4)), .second, .val (.ref bk103_0), .val (.double (FP.i2d p3)), .second, .val (.double (FP.l2d q4)), .second, .unset]) rfl ?_
        refine XS.goto Xk116.here hx rfl (pc0 := 285) (pc' := 298) rfl (hb hby at_285) (by decide) (by decide) ?_
        exact kt
      · refine ⟨_, _, Xk116, Nk116, ek116, fun target kt => ?_⟩
        rw [(show (own_j0_3 p0 p1 p2 p3) = (4602678819172646912 : UInt64) from if_neg hj117), (show (own_j0_4 p0 p1 p2 q4) = (4606281698874543309 : UInt64) from if_neg hj117)] at kt
        show Steps p.tables e below (Tk116.setTop (mkF m 274 #[.val (.int p0), .val (.int p1), .val (.int p2), .val (.int p3), .val (.long q4), .second, .val (.int p5), .val (.int (own_v0_0 p0)), .val (.int (own_v0_1 p0 p1)), .val (.int (own_v0_2 p0 p2)), .val (.int 0), .val (.double (FP.i2d p3)), .second, .val (.double (FP.l2d q4)), .second, .val (.ref bn3), .val (.ref bk7_0), .val (.ref bn26), .val (.ref bk80_0), .val (.double (FP.i2d p3)), .second, .val (.double (FP.l2d q4)), .second, .val (.ref bk103_0), .unset, .unset, .unset, .unset, .unset] [(.int (own_v0_1 p0 p1)), (.int (own_v0_2 p0 p2))])) _
        refine XS.icmpYes Xk116.here hx rfl (pc0 := 274) (pc' := 288) rfl (hb hby at_274) rfl (XT.ii_ne_t hj117) (by decide) (by decide) ?_
        refine Xk116.ldc2DoubleC hx hown (mvT hZ (own_W hw 33 rfl)) (g := (mkF m 288 #[.val (.int p0), .val (.int p1), .val (.int p2), .val (.int p3), .val (.long q4), .second, .val (.int p5), .val (.int (own_v0_0 p0)), .val (.int (own_v0_1 p0 p1)), .val (.int (own_v0_2 p0 p2)), .val (.int 0), .val (.double (FP.i2d p3)), .second, .val (.double (FP.l2d q4)), .second, .val (.ref bn3), .val (.ref bk7_0), .val (.ref bn26), .val (.ref bk80_0), .val (.double (FP.i2d p3)), .second, .val (.double (FP.l2d q4)), .second, .val (.ref bk103_0), .unset, .unset, .unset, .unset, .unset] [])) rfl (hb hby at_288) _ ?_
        refine XS.dstore Xk116.here hx rfl (hb hby at_291) rfl (l' := #[.val (.int p0), .val (.int p1), .val (.int p2), .val (.int p3), .val (.long q4), .second, .val (.int p5), .val (.int (own_v0_0 p0)), .val (.int (own_v0_1 p0 p1)), .val (.int (own_v0_2 p0 p2)), .val (.int 0), .val (.double (FP.i2d p3)), .second, .val (.double (FP.l2d q4)), .second, .val (.ref bn3), .val (.ref bk7_0), .val (.ref bn26), .val (.ref bk80_0), .val (.double (FP.i2d p3)), .second, .val (.double (FP.l2d q4)), .second, .val (.ref bk103_0), .val (.double 4602678819172646912), .second, .unset, .unset, .unset]) rfl ?_
        refine Xk116.ldc2DoubleC hx hown (mvT hZ (own_W hw 34 rfl)) (g := (mkF m 293 #[.val (.int p0), .val (.int p1), .val (.int p2), .val (.int p3), .val (.long q4), .second, .val (.int p5), .val (.int (own_v0_0 p0)), .val (.int (own_v0_1 p0 p1)), .val (.int (own_v0_2 p0 p2)), .val (.int 0), .val (.double (FP.i2d p3)), .second, .val (.double (FP.l2d q4)), .second, .val (.ref bn3), .val (.ref bk7_0), .val (.ref bn26), .val (.ref bk80_0), .val (.double (FP.i2d p3)), .second, .val (.double (FP.l2d q4)), .second, .val (.ref bk103_0), .val (.double 4602678819172646912), .second, .unset, .unset, .unset] [])) rfl (hb hby at_293) _ ?_
        show Steps p.tables e below (Tk116.setTop (mkF m 296 #[.val (.int p0), .val (.int p1), .val (.int p2), .val (.int p3), .val (.long q4), .second, .val (.int p5), .val (.int (own_v0_0 p0)), .val (.int (own_v0_1 p0 p1)), .val (.int (own_v0_2 p0 p2)), .val (.int 0), .val (.double (FP.i2d p3)), .second, .val (.double (FP.l2d q4)), .second, .val (.ref bn3), .val (.ref bk7_0), .val (.ref bn26), .val (.ref bk80_0), .val (.double (FP.i2d p3)), .second, .val (.double (FP.l2d q4)), .second, .val (.ref bk103_0), .val (.double 4602678819172646912), .second, .unset, .unset, .unset] [(.double 4606281698874543309)])) _
        refine XS.dstore Xk116.here hx rfl (hb hby at_296) rfl (l' := #[.val (.int p0), .val (.int p1), .val (.int p2), .val (.int p3), .val (.long q4), .second, .val (.int p5), .val (.int (own_v0_0 p0)), .val (.int (own_v0_1 p0 p1)), .val (.int (own_v0_2 p0 p2)), .val (.int 0), .val (.double (FP.i2d p3)), .second, .val (.double (FP.l2d q4)), .second, .val (.ref bn3), .val (.ref bk7_0), .val (.ref bn26), .val (.ref bk80_0), .val (.double (FP.i2d p3)), .second, .val (.double (FP.l2d q4)), .second, .val (.ref bk103_0), .val (.double 4602678819172646912), .second, .val (.double 4606281698874543309), .second, .unset]) rfl ?_
        exact kt
    have F119 := (F106.keep Kk103 nin0)
    have F120 := (F109.keep Kk103 nin0)
    have F121 := (F110.keep Kk103 nin0)
    have F122 := (F113.keep Kk103 nin0)
    have F123 := (F114.keep Kk103)
    obtain ⟨cqk118, kqk118, qk118a, qk118b, qk118c⟩ := isOf hZ ej117 F123
    obtain ⟨_, _, ⟨Tk118, Lk118, kk118, nk118⟩, -, Xk118, ⟨Lck118, hQk118, lk118, yk118, zk118⟩, stk118⟩ := Xj117.virtualBack hx (y := (⟨"com/example/evoluta/evoluta/algorithms/de/Jde$SelfAdaptation", "parameters", "(I)[[D"⟩ : MethodName)) (z := (⟨"com/example/evoluta/evoluta/algorithms/de/Jde$SelfAdaptation", "parameters", "(I)[[D"⟩ : MethodName)) hown (mvT hZ (own_W hw 25 rfl)) (mvT hZ (own_W hw 26 rfl)) (notFace_of_selects (args := #[]) (mvT hZ (own_W hw 28 rfl))) (mvT hZ (own_W hw 28 rfl)) (mvT hZ (own_W hw 27 rfl)) (by decide) (backOf (W := 0) (own_rm4 l Z a0 hw [] bn3 (own_v0_2 p0 p2) bk5_0 kk5_1 (own_v0_0 p0) (own_upd (own_cst (4602678819172646912 : UInt64)) (own_v0_1 p0 p1) (FP.i2d p3)) bk5_2 kk5_3 (own_v0_0 p0) (own_upd (own_cst (4606281698874543309 : UInt64)) (own_v0_1 p0 p1) (FP.l2d q4)) Tk103.heap n0 (Nat.le_trans Z0 sz115) F119 F120 F121 F122 (c64_in16 hs1) (c64_in16 hs1)) hZ (own_W hw 29 rfl) (own_W hw 3 rfl) (by decide) (by decide)) qk118a qk118c (g := (mkF m 302 #[.val (.int p0), .val (.int p1), .val (.int p2), .val (.int p3), .val (.long q4), .second, .val (.int p5), .val (.int (own_v0_0 p0)), .val (.int (own_v0_1 p0 p1)), .val (.int (own_v0_2 p0 p2)), .val (.int 0), .val (.double (FP.i2d p3)), .second, .val (.double (FP.l2d q4)), .second, .val (.ref bn3), .val (.ref bk7_0), .val (.ref bn26), .val (.ref bk80_0), .val (.double (FP.i2d p3)), .second, .val (.double (FP.l2d q4)), .second, .val (.ref bk103_0), .val (.double (own_j0_3 p0 p1 p2 p3)), .second, .val (.double (own_j0_4 p0 p1 p2 q4)), .second, .unset] [(.int (own_v0_2 p0 p2)), (.ref bn3)])) rfl (by rw [hml]; rfl) (Steps.refl _) (argsL := [(.int (own_v0_2 p0 p2))]) (rest := []) (lenOf own_pd2 rfl) rfl (by show 2 * 0 + _ ≤ _; exact Nat.le_of_eq rfl) (hb hby at_302) (fun _ _ => ⟨rfl, ej117, (by decide : 17 + 3 ≤ _), (by decide : 52 + 4 ≤ _)⟩)
    dsimp only [Pt.U, Pt.locs, Pt.cells, Pt.slots] at Xk118 lk118 yk118 zk118 stk118 hQk118
    replace lk118 := lk118.symm; replace yk118 := yk118.symm; replace zk118 := zk118.symm; subst lk118 yk118 zk118
    obtain ⟨bk118_0, kk118_1, bk118_2, kk118_3, bk118_4, kk118_5, rfl, Nk118q, Kk118, lebk118_0, lebk118_2, lebk118_4, nek118_0, nek118_1, nek118_2, Qk118_0, Qk118_1, Qk118_2, Qk118_3, Qk118_4, Qk118_5⟩ := hQk118
    have g_bk118_0 : n0 ≤ bk118_0 := Nat.le_trans (Nat.le_trans Z0 sz115) lebk118_0
    have sz_bk118_0 : h0.size ≤ bk118_0 := Nat.le_trans sz115 lebk118_0
    have g_bk118_2 : n0 ≤ bk118_2 := Nat.le_trans (Nat.le_trans Z0 sz115) lebk118_2
    have sz_bk118_2 : h0.size ≤ bk118_2 := Nat.le_trans sz115 lebk118_2
    have g_bk118_4 : n0 ≤ bk118_4 := Nat.le_trans (Nat.le_trans Z0 sz115) lebk118_4
    have sz_bk118_4 : h0.size ≤ bk118_4 := Nat.le_trans sz115 lebk118_4
    have sz124 : h0.size ≤ Tk118.heap.size := Nat.le_trans sz115 Kk118.1
    have Nk118 := Fr.app Nj117 Nk118q
    obtain ⟨_, _, ⟨Tk125, Lk125, kk125, nk125⟩, -, Xk125, ⟨Lck125, hQk125, lk125, yk125, zk125⟩, stk125⟩ := Jvm.LawKit.callS Xk118 hx (y := (⟨"com/example/evoluta/evoluta/algorithms/de/SelfAdaptationParametersPinLaw", "is", "([[DDD)Z"⟩ : MethodName)) hown (mvT hZ (own_W hw 35 rfl)) (mvT hZ (own_W hw 36 rfl)) (mvT hZ (own_W hw 37 rfl)) (mvT hZ (own_W hw 38 rfl)) (by decide) (backOf (W := 0) (own_rm5 l Z a0 hw [] bk118_0 (own_j0_3 p0 p1 p2 p3) (own_j0_4 p0 p1 p2 q4) kk118_1 bk118_2 bk118_4 kk118_3 (own_v4_0 (own_v0_2 p0 p2) (own_upd (own_cst (4602678819172646912 : UInt64)) (own_v0_1 p0 p1) (FP.i2d p3))) kk118_5 (own_v4_1 (own_v0_2 p0 p2) (own_upd (own_cst (4606281698874543309 : UInt64)) (own_v0_1 p0 p1) (FP.l2d q4))) Tk118.heap n0 (Nat.le_trans Z0 sz124) Qk118_1 Qk118_3 Qk118_5 (c313_hc51 hs1) (c313_hc61 hs1)) hZ (own_W hw 38 rfl) (own_W hw 37 rfl) (by decide) (by decide)) (g := (mkF m 313 #[.val (.int p0), .val (.int p1), .val (.int p2), .val (.int p3), .val (.long q4), .second, .val (.int p5), .val (.int (own_v0_0 p0)), .val (.int (own_v0_1 p0 p1)), .val (.int (own_v0_2 p0 p2)), .val (.int 0), .val (.double (FP.i2d p3)), .second, .val (.double (FP.l2d q4)), .second, .val (.ref bn3), .val (.ref bk7_0), .val (.ref bn26), .val (.ref bk80_0), .val (.double (FP.i2d p3)), .second, .val (.double (FP.l2d q4)), .second, .val (.ref bk103_0), .val (.double (own_j0_3 p0 p1 p2 p3)), .second, .val (.double (own_j0_4 p0 p1 p2 q4)), .second, .val (.ref bk118_0)] [(.double (own_j0_4 p0 p1 p2 q4)), (.double (own_j0_3 p0 p1 p2 p3)), (.ref bk118_0)])) rfl (by rw [hml]; rfl) (argsL := [(.ref bk118_0), (.double (own_j0_3 p0 p1 p2 p3)), (.double (own_j0_4 p0 p1 p2 q4))]) (rest := []) (lenOf own_pd3 rfl) rfl (by show 2 * 0 + _ ≤ _; exact Nat.le_of_eq rfl) (hb hby at_313) (fun _ _ => ⟨rfl, rfl, (by decide : 20 + 0 ≤ _), (by decide : 56 + 0 ≤ _)⟩)
    dsimp only [Pt.U, Pt.locs, Pt.cells, Pt.slots] at Xk125 lk125 yk125 zk125 stk125 hQk125
    replace lk125 := lk125.symm; replace yk125 := yk125.symm; replace zk125 := zk125.symm; subst lk125 yk125 zk125
    obtain ⟨rfl, Nk125q, ek125⟩ := hQk125
    have Nk125 := Fr.app Nk118 Nk125q
    obtain ⟨fs, hr, hrun, hended, hW, hsame⟩ := Xk125.leave (v := some (.int 1)) (fun h => by rw [Bd.returns] at h; cases h)
    refine ⟨_, _, pre0 _ (Ks1 _ (K2 _ (?_))), hrun, hended, _, _, rfl, ?_, ⟨_, rfl⟩, hW, hsame.mono (by decide) (by decide)⟩
    · show Steps p.tables e below (s₁.setTop (mkF m 37 #[.val (.int p0), .val (.int p1), .val (.int p2), .val (.int p3), .val (.long q4), .second, .val (.int p5), .val (.int (own_v0_0 p0)), .val (.int (own_v0_1 p0 p1)), .val (.int (own_v0_2 p0 p2)), .unset, .unset, .unset, .unset, .unset, .unset, .unset, .unset, .unset, .unset, .unset, .unset, .unset, .unset, .unset, .unset, .unset, .unset, .unset] [])) _
      refine XS.iconst X0.here hx rfl (hb hby at_37) ?_
      refine XS.istore X0.here hx rfl (hb hby at_38) rfl (l' := #[.val (.int p0), .val (.int p1), .val (.int p2), .val (.int p3), .val (.long q4), .second, .val (.int p5), .val (.int (own_v0_0 p0)), .val (.int (own_v0_1 p0 p1)), .val (.int (own_v0_2 p0 p2)), .val (.int 0), .unset, .unset, .unset, .unset, .unset, .unset, .unset, .unset, .unset, .unset, .unset, .unset, .unset, .unset, .unset, .unset, .unset, .unset]) rfl ?_
      refine XS.iloadN X0.here hx rfl (hb hby at_40) rfl ?_
      refine XS.i2dS X0.here hx rfl (hb hby at_41) rfl rfl ?_
      refine XS.dstore X0.here hx rfl (hb hby at_42) rfl (l' := #[.val (.int p0), .val (.int p1), .val (.int p2), .val (.int p3), .val (.long q4), .second, .val (.int p5), .val (.int (own_v0_0 p0)), .val (.int (own_v0_1 p0 p1)), .val (.int (own_v0_2 p0 p2)), .val (.int 0), .val (.double (FP.i2d p3)), .second, .unset, .unset, .unset, .unset, .unset, .unset, .unset, .unset, .unset, .unset, .unset, .unset, .unset, .unset, .unset, .unset]) rfl ?_
      refine XT.lload X0.here hx rfl (hb hby at_44) rfl ?_
      refine XS.l2dS X0.here hx rfl (hb hby at_46) rfl rfl ?_
      refine XS.dstore X0.here hx rfl (hb hby at_47) rfl (l' := #[.val (.int p0), .val (.int p1), .val (.int p2), .val (.int p3), .val (.long q4), .second, .val (.int p5), .val (.int (own_v0_0 p0)), .val (.int (own_v0_1 p0 p1)), .val (.int (own_v0_2 p0 p2)), .val (.int 0), .val (.double (FP.i2d p3)), .second, .val (.double (FP.l2d q4)), .second, .unset, .unset, .unset, .unset, .unset, .unset, .unset, .unset, .unset, .unset, .unset, .unset, .unset, .unset]) rfl ?_
      refine stn3 _ ?_
      show Steps p.tables e below (Tn3.setTop (mkF m 52 #[.val (.int p0), .val (.int p1), .val (.int p2), .val (.int p3), .val (.long q4), .second, .val (.int p5), .val (.int (own_v0_0 p0)), .val (.int (own_v0_1 p0 p1)), .val (.int (own_v0_2 p0 p2)), .val (.int 0), .val (.double (FP.i2d p3)), .second, .val (.double (FP.l2d q4)), .second, .unset, .unset, .unset, .unset, .unset, .unset, .unset, .unset, .unset, .unset, .unset, .unset, .unset, .unset] [(.ref bn3)])) _
      refine XS.dup Xn3.here hx rfl (hb hby at_52) rfl rfl ?_
      refine XS.iload Xn3.here hx rfl (hb hby at_53) rfl ?_
      refine stk5.trans ?_
      show Steps p.tables e below (Tk5.setTop (mkF m 58 #[.val (.int p0), .val (.int p1), .val (.int p2), .val (.int p3), .val (.long q4), .second, .val (.int p5), .val (.int (own_v0_0 p0)), .val (.int (own_v0_1 p0 p1)), .val (.int (own_v0_2 p0 p2)), .val (.int 0), .val (.double (FP.i2d p3)), .second, .val (.double (FP.l2d q4)), .second, .unset, .unset, .unset, .unset, .unset, .unset, .unset, .unset, .unset, .unset, .unset, .unset, .unset, .unset] [(.ref bn3)])) _
      refine XS.astore Xk5.here hx rfl (hb hby at_58) rfl rfl (l' := #[.val (.int p0), .val (.int p1), .val (.int p2), .val (.int p3), .val (.long q4), .second, .val (.int p5), .val (.int (own_v0_0 p0)), .val (.int (own_v0_1 p0 p1)), .val (.int (own_v0_2 p0 p2)), .val (.int 0), .val (.double (FP.i2d p3)), .second, .val (.double (FP.l2d q4)), .second, .val (.ref bn3), .unset, .unset, .unset, .unset, .unset, .unset, .unset, .unset, .unset, .unset, .unset, .unset, .unset]) rfl ?_
      refine XS.aload Xk5.here hx rfl (hb hby at_60) rfl rfl ?_
      refine XS.iload Xk5.here hx rfl (hb hby at_62) rfl ?_
      refine stk7.trans ?_
      show Steps p.tables e below (Tk7.setTop (mkF m 67 #[.val (.int p0), .val (.int p1), .val (.int p2), .val (.int p3), .val (.long q4), .second, .val (.int p5), .val (.int (own_v0_0 p0)), .val (.int (own_v0_1 p0 p1)), .val (.int (own_v0_2 p0 p2)), .val (.int 0), .val (.double (FP.i2d p3)), .second, .val (.double (FP.l2d q4)), .second, .val (.ref bn3), .unset, .unset, .unset, .unset, .unset, .unset, .unset, .unset, .unset, .unset, .unset, .unset, .unset] [(.ref bk7_0)])) _
      refine XS.astore Xk7.here hx rfl (hb hby at_67) rfl rfl (l' := #[.val (.int p0), .val (.int p1), .val (.int p2), .val (.int p3), .val (.long q4), .second, .val (.int p5), .val (.int (own_v0_0 p0)), .val (.int (own_v0_1 p0 p1)), .val (.int (own_v0_2 p0 p2)), .val (.int 0), .val (.double (FP.i2d p3)), .second, .val (.double (FP.l2d q4)), .second, .val (.ref bn3), .val (.ref bk7_0), .unset, .unset, .unset, .unset, .unset, .unset, .unset, .unset, .unset, .unset, .unset, .unset]) rfl ?_
      refine XS.aload Xk7.here hx rfl (hb hby at_69) rfl rfl ?_
      refine Xk7.ldc2DoubleC hx hown (mvT hZ (own_W hw 33 rfl)) (g := (mkF m 71 #[.val (.int p0), .val (.int p1), .val (.int p2), .val (.int p3), .val (.long q4), .second, .val (.int p5), .val (.int (own_v0_0 p0)), .val (.int (own_v0_1 p0 p1)), .val (.int (own_v0_2 p0 p2)), .val (.int 0), .val (.double (FP.i2d p3)), .second, .val (.double (FP.l2d q4)), .second, .val (.ref bn3), .val (.ref bk7_0), .unset, .unset, .unset, .unset, .unset, .unset, .unset, .unset, .unset, .unset, .unset, .unset] [(.ref bk7_0)])) rfl (hb hby at_71) _ ?_
      show Steps p.tables e below (Tk7.setTop (mkF m 74 #[.val (.int p0), .val (.int p1), .val (.int p2), .val (.int p3), .val (.long q4), .second, .val (.int p5), .val (.int (own_v0_0 p0)), .val (.int (own_v0_1 p0 p1)), .val (.int (own_v0_2 p0 p2)), .val (.int 0), .val (.double (FP.i2d p3)), .second, .val (.double (FP.l2d q4)), .second, .val (.ref bn3), .val (.ref bk7_0), .unset, .unset, .unset, .unset, .unset, .unset, .unset, .unset, .unset, .unset, .unset, .unset] [(.double 4602678819172646912), (.ref bk7_0)])) _
      refine Xk7.ldc2DoubleC hx hown (mvT hZ (own_W hw 34 rfl)) (g := (mkF m 74 #[.val (.int p0), .val (.int p1), .val (.int p2), .val (.int p3), .val (.long q4), .second, .val (.int p5), .val (.int (own_v0_0 p0)), .val (.int (own_v0_1 p0 p1)), .val (.int (own_v0_2 p0 p2)), .val (.int 0), .val (.double (FP.i2d p3)), .second, .val (.double (FP.l2d q4)), .second, .val (.ref bn3), .val (.ref bk7_0), .unset, .unset, .unset, .unset, .unset, .unset, .unset, .unset, .unset, .unset, .unset, .unset] [(.double 4602678819172646912), (.ref bk7_0)])) rfl (hb hby at_74) _ ?_
      refine stk9 _ ?_
      refine XS.ifYes Xk9.here hx rfl (pc0 := 80) (pc' := 85) rfl (hb hby at_80) rfl (XT.i0_ne_t (by decide : ¬ ((1 : Int32) = (0 : Int32)))) (by decide) (by decide) ?_
      refine XS.aload Xk9.here hx rfl (hb hby at_85) rfl rfl ?_
      refine XS.iconst Xk9.here hx rfl (hb hby at_87) ?_
      refine Xk9.aaload hx (j := (0 : Int32)) (v := (.ref bk7_2)) (by rw [ek9]; exact Aro10.1) (State.isArrayOf_alike hZ.alike Aro10.2.1) rfl Aro10.2.2 hi11 ha12 (g := (mkF m 88 #[.val (.int p0), .val (.int p1), .val (.int p2), .val (.int p3), .val (.long q4), .second, .val (.int p5), .val (.int (own_v0_0 p0)), .val (.int (own_v0_1 p0 p1)), .val (.int (own_v0_2 p0 p2)), .val (.int 0), .val (.double (FP.i2d p3)), .second, .val (.double (FP.l2d q4)), .second, .val (.ref bn3), .val (.ref bk7_0), .unset, .unset, .unset, .unset, .unset, .unset, .unset, .unset, .unset, .unset, .unset, .unset] [(.int 0), (.ref bk7_0)])) rfl rfl (hb hby at_88) _ ?_
      show Steps p.tables e below (Tk9.setTop (mkF m 89 #[.val (.int p0), .val (.int p1), .val (.int p2), .val (.int p3), .val (.long q4), .second, .val (.int p5), .val (.int (own_v0_0 p0)), .val (.int (own_v0_1 p0 p1)), .val (.int (own_v0_2 p0 p2)), .val (.int 0), .val (.double (FP.i2d p3)), .second, .val (.double (FP.l2d q4)), .second, .val (.ref bn3), .val (.ref bk7_0), .unset, .unset, .unset, .unset, .unset, .unset, .unset, .unset, .unset, .unset, .unset, .unset] [(.ref bk7_2)])) _
      refine XS.iconst Xk9.here hx rfl (hb hby at_89) ?_
      refine Xk9.ldc2DoubleC hx hown (mvT hZ (own_W hw 39 rfl)) (g := (mkF m 90 #[.val (.int p0), .val (.int p1), .val (.int p2), .val (.int p3), .val (.long q4), .second, .val (.int p5), .val (.int (own_v0_0 p0)), .val (.int (own_v0_1 p0 p1)), .val (.int (own_v0_2 p0 p2)), .val (.int 0), .val (.double (FP.i2d p3)), .second, .val (.double (FP.l2d q4)), .second, .val (.ref bn3), .val (.ref bk7_0), .unset, .unset, .unset, .unset, .unset, .unset, .unset, .unset, .unset, .unset, .unset, .unset] [(.int 0), (.ref bk7_2)])) rfl (hb hby at_90) _ ?_
      refine sto15 _ ?_
      show Steps p.tables e below (To15.setTop (mkF m 94 #[.val (.int p0), .val (.int p1), .val (.int p2), .val (.int p3), .val (.long q4), .second, .val (.int p5), .val (.int (own_v0_0 p0)), .val (.int (own_v0_1 p0 p1)), .val (.int (own_v0_2 p0 p2)), .val (.int 0), .val (.double (FP.i2d p3)), .second, .val (.double (FP.l2d q4)), .second, .val (.ref bn3), .val (.ref bk7_0), .unset, .unset, .unset, .unset, .unset, .unset, .unset, .unset, .unset, .unset, .unset, .unset] [])) _
      refine XS.aload Xo15.here hx rfl (hb hby at_94) rfl rfl ?_
      refine XS.iconst Xo15.here hx rfl (hb hby at_96) ?_
      refine Xo15.aaload hx (j := (1 : Int32)) (v := (.ref bk7_4)) (by rw [eo15]; exact Aro18.1) (State.isArrayOf_alike hZ.alike Aro18.2.1) rfl Aro18.2.2 hi19 ha20 (g := (mkF m 97 #[.val (.int p0), .val (.int p1), .val (.int p2), .val (.int p3), .val (.long q4), .second, .val (.int p5), .val (.int (own_v0_0 p0)), .val (.int (own_v0_1 p0 p1)), .val (.int (own_v0_2 p0 p2)), .val (.int 0), .val (.double (FP.i2d p3)), .second, .val (.double (FP.l2d q4)), .second, .val (.ref bn3), .val (.ref bk7_0), .unset, .unset, .unset, .unset, .unset, .unset, .unset, .unset, .unset, .unset, .unset, .unset] [(.int 1), (.ref bk7_0)])) rfl rfl (hb hby at_97) _ ?_
      show Steps p.tables e below (To15.setTop (mkF m 98 #[.val (.int p0), .val (.int p1), .val (.int p2), .val (.int p3), .val (.long q4), .second, .val (.int p5), .val (.int (own_v0_0 p0)), .val (.int (own_v0_1 p0 p1)), .val (.int (own_v0_2 p0 p2)), .val (.int 0), .val (.double (FP.i2d p3)), .second, .val (.double (FP.l2d q4)), .second, .val (.ref bn3), .val (.ref bk7_0), .unset, .unset, .unset, .unset, .unset, .unset, .unset, .unset, .unset, .unset, .unset, .unset] [(.ref bk7_4)])) _
      refine XS.iconst Xo15.here hx rfl (hb hby at_98) ?_
      refine Xo15.ldc2DoubleC hx hown (mvT hZ (own_W hw 39 rfl)) (g := (mkF m 99 #[.val (.int p0), .val (.int p1), .val (.int p2), .val (.int p3), .val (.long q4), .second, .val (.int p5), .val (.int (own_v0_0 p0)), .val (.int (own_v0_1 p0 p1)), .val (.int (own_v0_2 p0 p2)), .val (.int 0), .val (.double (FP.i2d p3)), .second, .val (.double (FP.l2d q4)), .second, .val (.ref bn3), .val (.ref bk7_0), .unset, .unset, .unset, .unset, .unset, .unset, .unset, .unset, .unset, .unset, .unset, .unset] [(.int 0), (.ref bk7_4)])) rfl (hb hby at_99) _ ?_
      refine sto24 _ ?_
      show Steps p.tables e below (To24.setTop (mkF m 103 #[.val (.int p0), .val (.int p1), .val (.int p2), .val (.int p3), .val (.long q4), .second, .val (.int p5), .val (.int (own_v0_0 p0)), .val (.int (own_v0_1 p0 p1)), .val (.int (own_v0_2 p0 p2)), .val (.int 0), .val (.double (FP.i2d p3)), .second, .val (.double (FP.l2d q4)), .second, .val (.ref bn3), .val (.ref bk7_0), .unset, .unset, .unset, .unset, .unset, .unset, .unset, .unset, .unset, .unset, .unset, .unset] [])) _
      refine XS.iconst Xo24.here hx rfl (hb hby at_103) ?_
      refine stn26 _ ?_
      refine XS.dup Xn26.here hx rfl (hb hby at_107) rfl rfl ?_
      refine XS.iconst Xn26.here hx rfl (hb hby at_108) ?_
      refine XS.iconst Xn26.here hx rfl (hb hby at_109) ?_
      refine stn28 _ ?_
      show Steps p.tables e below (Tn28.setTop (mkF m 112 #[.val (.int p0), .val (.int p1), .val (.int p2), .val (.int p3), .val (.long q4), .second, .val (.int p5), .val (.int (own_v0_0 p0)), .val (.int (own_v0_1 p0 p1)), .val (.int (own_v0_2 p0 p2)), .val (.int 0), .val (.double (FP.i2d p3)), .second, .val (.double (FP.l2d q4)), .second, .val (.ref bn3), .val (.ref bk7_0), .unset, .unset, .unset, .unset, .unset, .unset, .unset, .unset, .unset, .unset, .unset, .unset] [(.ref bn28), (.int 0), (.ref bn26), (.ref bn26)])) _
      refine XS.dup Xn28.here hx rfl (hb hby at_112) rfl rfl ?_
      refine XS.iconst Xn28.here hx rfl (hb hby at_113) ?_
      refine XS.dload Xn28.here hx rfl (hb hby at_114) rfl ?_
      refine sto32 _ ?_
      show Steps p.tables e below (To32.setTop (mkF m 117 #[.val (.int p0), .val (.int p1), .val (.int p2), .val (.int p3), .val (.long q4), .second, .val (.int p5), .val (.int (own_v0_0 p0)), .val (.int (own_v0_1 p0 p1)), .val (.int (own_v0_2 p0 p2)), .val (.int 0), .val (.double (FP.i2d p3)), .second, .val (.double (FP.l2d q4)), .second, .val (.ref bn3), .val (.ref bk7_0), .unset, .unset, .unset, .unset, .unset, .unset, .unset, .unset, .unset, .unset, .unset, .unset] [(.ref bn28), (.int 0), (.ref bn26), (.ref bn26)])) _
      refine sto38 _ ?_
      refine XS.dup Xo38.here hx rfl (hb hby at_118) rfl rfl ?_
      refine XS.iconst Xo38.here hx rfl (hb hby at_119) ?_
      refine XS.iconst Xo38.here hx rfl (hb hby at_120) ?_
      refine stn41 _ ?_
      show Steps p.tables e below (Tn41.setTop (mkF m 123 #[.val (.int p0), .val (.int p1), .val (.int p2), .val (.int p3), .val (.long q4), .second, .val (.int p5), .val (.int (own_v0_0 p0)), .val (.int (own_v0_1 p0 p1)), .val (.int (own_v0_2 p0 p2)), .val (.int 0), .val (.double (FP.i2d p3)), .second, .val (.double (FP.l2d q4)), .second, .val (.ref bn3), .val (.ref bk7_0), .unset, .unset, .unset, .unset, .unset, .unset, .unset, .unset, .unset, .unset, .unset, .unset] [(.ref bn41), (.int 1), (.ref bn26), (.ref bn26)])) _
      refine XS.dup Xn41.here hx rfl (hb hby at_123) rfl rfl ?_
      refine XS.iconst Xn41.here hx rfl (hb hby at_124) ?_
      refine XS.dload Xn41.here hx rfl (hb hby at_125) rfl ?_
      refine sto45 _ ?_
      show Steps p.tables e below (To45.setTop (mkF m 128 #[.val (.int p0), .val (.int p1), .val (.int p2), .val (.int p3), .val (.long q4), .second, .val (.int p5), .val (.int (own_v0_0 p0)), .val (.int (own_v0_1 p0 p1)), .val (.int (own_v0_2 p0 p2)), .val (.int 0), .val (.double (FP.i2d p3)), .second, .val (.double (FP.l2d q4)), .second, .val (.ref bn3), .val (.ref bk7_0), .unset, .unset, .unset, .unset, .unset, .unset, .unset, .unset, .unset, .unset, .unset, .unset] [(.ref bn41), (.int 1), (.ref bn26), (.ref bn26)])) _
      refine sto51 _ ?_
      refine XS.astore Xo51.here hx rfl (hb hby at_129) rfl rfl (l' := #[.val (.int p0), .val (.int p1), .val (.int p2), .val (.int p3), .val (.long q4), .second, .val (.int p5), .val (.int (own_v0_0 p0)), .val (.int (own_v0_1 p0 p1)), .val (.int (own_v0_2 p0 p2)), .val (.int 0), .val (.double (FP.i2d p3)), .second, .val (.double (FP.l2d q4)), .second, .val (.ref bn3), .val (.ref bk7_0), .val (.ref bn26), .unset, .unset, .unset, .unset, .unset, .unset, .unset, .unset, .unset, .unset, .unset]) rfl ?_
      refine XS.aload Xo51.here hx rfl (hb hby at_131) rfl rfl ?_
      refine XS.iload Xo51.here hx rfl (hb hby at_133) rfl ?_
      refine XS.aload Xo51.here hx rfl (hb hby at_135) rfl rfl ?_
      refine stk54.trans ?_
      show Steps p.tables e below (Tk54.setTop (mkF m 140 #[.val (.int p0), .val (.int p1), .val (.int p2), .val (.int p3), .val (.long q4), .second, .val (.int p5), .val (.int (own_v0_0 p0)), .val (.int (own_v0_1 p0 p1)), .val (.int (own_v0_2 p0 p2)), .val (.int 0), .val (.double (FP.i2d p3)), .second, .val (.double (FP.l2d q4)), .second, .val (.ref bn3), .val (.ref bk7_0), .val (.ref bn26), .unset, .unset, .unset, .unset, .unset, .unset, .unset, .unset, .unset, .unset, .unset] [])) _
      refine XS.aload Xk54.here hx rfl (hb hby at_140) rfl rfl ?_
      refine XS.iload Xk54.here hx rfl (hb hby at_142) rfl ?_
      refine stk80.trans ?_
      show Steps p.tables e below (Tk80.setTop (mkF m 147 #[.val (.int p0), .val (.int p1), .val (.int p2), .val (.int p3), .val (.long q4), .second, .val (.int p5), .val (.int (own_v0_0 p0)), .val (.int (own_v0_1 p0 p1)), .val (.int (own_v0_2 p0 p2)), .val (.int 0), .val (.double (FP.i2d p3)), .second, .val (.double (FP.l2d q4)), .second, .val (.ref bn3), .val (.ref bk7_0), .val (.ref bn26), .unset, .unset, .unset, .unset, .unset, .unset, .unset, .unset, .unset, .unset, .unset] [(.ref bk80_0)])) _
      refine XS.astore Xk80.here hx rfl (hb hby at_147) rfl rfl (l' := #[.val (.int p0), .val (.int p1), .val (.int p2), .val (.int p3), .val (.long q4), .second, .val (.int p5), .val (.int (own_v0_0 p0)), .val (.int (own_v0_1 p0 p1)), .val (.int (own_v0_2 p0 p2)), .val (.int 0), .val (.double (FP.i2d p3)), .second, .val (.double (FP.l2d q4)), .second, .val (.ref bn3), .val (.ref bk7_0), .val (.ref bn26), .val (.ref bk80_0), .unset, .unset, .unset, .unset, .unset, .unset, .unset, .unset, .unset, .unset]) rfl ?_
      refine XS.aload Xk80.here hx rfl (hb hby at_149) rfl rfl ?_
      refine XS.dload Xk80.here hx rfl (hb hby at_151) rfl ?_
      refine XS.dload Xk80.here hx rfl (hb hby at_153) rfl ?_
      refine stk86 _ ?_
      show Steps p.tables e below (Tk86.setTop (mkF m 158 #[.val (.int p0), .val (.int p1), .val (.int p2), .val (.int p3), .val (.long q4), .second, .val (.int p5), .val (.int (own_v0_0 p0)), .val (.int (own_v0_1 p0 p1)), .val (.int (own_v0_2 p0 p2)), .val (.int 0), .val (.double (FP.i2d p3)), .second, .val (.double (FP.l2d q4)), .second, .val (.ref bn3), .val (.ref bk7_0), .val (.ref bn26), .val (.ref bk80_0), .unset, .unset, .unset, .unset, .unset, .unset, .unset, .unset, .unset, .unset] [(.int 1)])) _
      refine XS.ifYes Xk86.here hx rfl (pc0 := 158) (pc' := 163) rfl (hb hby at_158) rfl (XT.i0_ne_t (by decide : ¬ ((1 : Int32) = (0 : Int32)))) (by decide) (by decide) ?_
      refine XS.aload Xk86.here hx rfl (hb hby at_163) rfl rfl ?_
      refine XS.iconst Xk86.here hx rfl (hb hby at_165) ?_
      refine Xk86.aaload hx (j := (0 : Int32)) (v := (.ref bk80_2)) (by rw [ek86]; exact Aro87.1) (State.isArrayOf_alike hZ.alike Aro87.2.1) rfl Aro87.2.2 hi88 ha89 (g := (mkF m 166 #[.val (.int p0), .val (.int p1), .val (.int p2), .val (.int p3), .val (.long q4), .second, .val (.int p5), .val (.int (own_v0_0 p0)), .val (.int (own_v0_1 p0 p1)), .val (.int (own_v0_2 p0 p2)), .val (.int 0), .val (.double (FP.i2d p3)), .second, .val (.double (FP.l2d q4)), .second, .val (.ref bn3), .val (.ref bk7_0), .val (.ref bn26), .val (.ref bk80_0), .unset, .unset, .unset, .unset, .unset, .unset, .unset, .unset, .unset, .unset] [(.int 0), (.ref bk80_0)])) rfl rfl (hb hby at_166) _ ?_
      show Steps p.tables e below (Tk86.setTop (mkF m 167 #[.val (.int p0), .val (.int p1), .val (.int p2), .val (.int p3), .val (.long q4), .second, .val (.int p5), .val (.int (own_v0_0 p0)), .val (.int (own_v0_1 p0 p1)), .val (.int (own_v0_2 p0 p2)), .val (.int 0), .val (.double (FP.i2d p3)), .second, .val (.double (FP.l2d q4)), .second, .val (.ref bn3), .val (.ref bk7_0), .val (.ref bn26), .val (.ref bk80_0), .unset, .unset, .unset, .unset, .unset, .unset, .unset, .unset, .unset, .unset] [(.ref bk80_2)])) _
      refine XS.iconst Xk86.here hx rfl (hb hby at_167) ?_
      refine Xk86.ldc2DoubleC hx hown (mvT hZ (own_W hw 39 rfl)) (g := (mkF m 168 #[.val (.int p0), .val (.int p1), .val (.int p2), .val (.int p3), .val (.long q4), .second, .val (.int p5), .val (.int (own_v0_0 p0)), .val (.int (own_v0_1 p0 p1)), .val (.int (own_v0_2 p0 p2)), .val (.int 0), .val (.double (FP.i2d p3)), .second, .val (.double (FP.l2d q4)), .second, .val (.ref bn3), .val (.ref bk7_0), .val (.ref bn26), .val (.ref bk80_0), .unset, .unset, .unset, .unset, .unset, .unset, .unset, .unset, .unset, .unset] [(.int 0), (.ref bk80_2)])) rfl (hb hby at_168) _ ?_
      refine sto92 _ ?_
      show Steps p.tables e below (To92.setTop (mkF m 172 #[.val (.int p0), .val (.int p1), .val (.int p2), .val (.int p3), .val (.long q4), .second, .val (.int p5), .val (.int (own_v0_0 p0)), .val (.int (own_v0_1 p0 p1)), .val (.int (own_v0_2 p0 p2)), .val (.int 0), .val (.double (FP.i2d p3)), .second, .val (.double (FP.l2d q4)), .second, .val (.ref bn3), .val (.ref bk7_0), .val (.ref bn26), .val (.ref bk80_0), .unset, .unset, .unset, .unset, .unset, .unset, .unset, .unset, .unset, .unset] [])) _
      refine XS.aload Xo92.here hx rfl (hb hby at_172) rfl rfl ?_
      refine XS.iconst Xo92.here hx rfl (hb hby at_174) ?_
      refine Xo92.aaload hx (j := (1 : Int32)) (v := (.ref bk80_4)) (by rw [eo92]; exact Aro95.1) (State.isArrayOf_alike hZ.alike Aro95.2.1) rfl Aro95.2.2 hi96 ha97 (g := (mkF m 175 #[.val (.int p0), .val (.int p1), .val (.int p2), .val (.int p3), .val (.long q4), .second, .val (.int p5), .val (.int (own_v0_0 p0)), .val (.int (own_v0_1 p0 p1)), .val (.int (own_v0_2 p0 p2)), .val (.int 0), .val (.double (FP.i2d p3)), .second, .val (.double (FP.l2d q4)), .second, .val (.ref bn3), .val (.ref bk7_0), .val (.ref bn26), .val (.ref bk80_0), .unset, .unset, .unset, .unset, .unset, .unset, .unset, .unset, .unset, .unset] [(.int 1), (.ref bk80_0)])) rfl rfl (hb hby at_175) _ ?_
      show Steps p.tables e below (To92.setTop (mkF m 176 #[.val (.int p0), .val (.int p1), .val (.int p2), .val (.int p3), .val (.long q4), .second, .val (.int p5), .val (.int (own_v0_0 p0)), .val (.int (own_v0_1 p0 p1)), .val (.int (own_v0_2 p0 p2)), .val (.int 0), .val (.double (FP.i2d p3)), .second, .val (.double (FP.l2d q4)), .second, .val (.ref bn3), .val (.ref bk7_0), .val (.ref bn26), .val (.ref bk80_0), .unset, .unset, .unset, .unset, .unset, .unset, .unset, .unset, .unset, .unset] [(.ref bk80_4)])) _
      refine XS.iconst Xo92.here hx rfl (hb hby at_176) ?_
      refine Xo92.ldc2DoubleC hx hown (mvT hZ (own_W hw 39 rfl)) (g := (mkF m 177 #[.val (.int p0), .val (.int p1), .val (.int p2), .val (.int p3), .val (.long q4), .second, .val (.int p5), .val (.int (own_v0_0 p0)), .val (.int (own_v0_1 p0 p1)), .val (.int (own_v0_2 p0 p2)), .val (.int 0), .val (.double (FP.i2d p3)), .second, .val (.double (FP.l2d q4)), .second, .val (.ref bn3), .val (.ref bk7_0), .val (.ref bn26), .val (.ref bk80_0), .unset, .unset, .unset, .unset, .unset, .unset, .unset, .unset, .unset, .unset] [(.int 0), (.ref bk80_4)])) rfl (hb hby at_177) _ ?_
      refine sto101 _ ?_
      show Steps p.tables e below (To101.setTop (mkF m 181 #[.val (.int p0), .val (.int p1), .val (.int p2), .val (.int p3), .val (.long q4), .second, .val (.int p5), .val (.int (own_v0_0 p0)), .val (.int (own_v0_1 p0 p1)), .val (.int (own_v0_2 p0 p2)), .val (.int 0), .val (.double (FP.i2d p3)), .second, .val (.double (FP.l2d q4)), .second, .val (.ref bn3), .val (.ref bk7_0), .val (.ref bn26), .val (.ref bk80_0), .unset, .unset, .unset, .unset, .unset, .unset, .unset, .unset, .unset, .unset] [])) _
      refine XS.iload Xo101.here hx rfl (hb hby at_181) rfl ?_
      refine XS.ifYes Xo101.here hx rfl (pc0 := 183) (pc' := 193) rfl (hb hby at_183) rfl (XT.i0_eq_t (by decide : (0 : Int32) = (0 : Int32))) (by decide) (by decide) ?_
      refine XS.iload Xo101.here hx rfl (hb hby at_193) rfl ?_
      refine XS.ifYes Xo101.here hx rfl (pc0 := 195) (pc' := 209) rfl (hb hby at_195) rfl (XT.i0_eq_t (by decide : (0 : Int32) = (0 : Int32))) (by decide) (by decide) ?_
      refine XS.dload Xo101.here hx rfl (hb hby at_209) rfl ?_
      refine XS.dstore Xo101.here hx rfl (hb hby at_211) rfl (l' := #[.val (.int p0), .val (.int p1), .val (.int p2), .val (.int p3), .val (.long q4), .second, .val (.int p5), .val (.int (own_v0_0 p0)), .val (.int (own_v0_1 p0 p1)), .val (.int (own_v0_2 p0 p2)), .val (.int 0), .val (.double (FP.i2d p3)), .second, .val (.double (FP.l2d q4)), .second, .val (.ref bn3), .val (.ref bk7_0), .val (.ref bn26), .val (.ref bk80_0), .val (.double (FP.i2d p3)), .second, .unset, .unset, .unset, .unset, .unset, .unset, .unset, .unset]) rfl ?_
      refine XS.iload Xo101.here hx rfl (hb hby at_213) rfl ?_
      refine XS.ifYes Xo101.here hx rfl (pc0 := 215) (pc' := 229) rfl (hb hby at_215) rfl (XT.i0_eq_t (by decide : (0 : Int32) = (0 : Int32))) (by decide) (by decide) ?_
      refine XS.dload Xo101.here hx rfl (hb hby at_229) rfl ?_
      refine XS.dstore Xo101.here hx rfl (hb hby at_231) rfl (l' := #[.val (.int p0), .val (.int p1), .val (.int p2), .val (.int p3), .val (.long q4), .second, .val (.int p5), .val (.int (own_v0_0 p0)), .val (.int (own_v0_1 p0 p1)), .val (.int (own_v0_2 p0 p2)), .val (.int 0), .val (.double (FP.i2d p3)), .second, .val (.double (FP.l2d q4)), .second, .val (.ref bn3), .val (.ref bk7_0), .val (.ref bn26), .val (.ref bk80_0), .val (.double (FP.i2d p3)), .second, .val (.double (FP.l2d q4)), .second, .unset, .unset, .unset, .unset, .unset, .unset]) rfl ?_
      refine XS.aload Xo101.here hx rfl (hb hby at_233) rfl rfl ?_
      refine XS.iload Xo101.here hx rfl (hb hby at_235) rfl ?_
      refine stk103.trans ?_
      show Steps p.tables e below (Tk103.setTop (mkF m 240 #[.val (.int p0), .val (.int p1), .val (.int p2), .val (.int p3), .val (.long q4), .second, .val (.int p5), .val (.int (own_v0_0 p0)), .val (.int (own_v0_1 p0 p1)), .val (.int (own_v0_2 p0 p2)), .val (.int 0), .val (.double (FP.i2d p3)), .second, .val (.double (FP.l2d q4)), .second, .val (.ref bn3), .val (.ref bk7_0), .val (.ref bn26), .val (.ref bk80_0), .val (.double (FP.i2d p3)), .second, .val (.double (FP.l2d q4)), .second, .unset, .unset, .unset, .unset, .unset, .unset] [(.ref bk103_0)])) _
      refine XS.astore Xk103.here hx rfl (hb hby at_240) rfl rfl (l' := #[.val (.int p0), .val (.int p1), .val (.int p2), .val (.int p3), .val (.long q4), .second, .val (.int p5), .val (.int (own_v0_0 p0)), .val (.int (own_v0_1 p0 p1)), .val (.int (own_v0_2 p0 p2)), .val (.int 0), .val (.double (FP.i2d p3)), .second, .val (.double (FP.l2d q4)), .second, .val (.ref bn3), .val (.ref bk7_0), .val (.ref bn26), .val (.ref bk80_0), .val (.double (FP.i2d p3)), .second, .val (.double (FP.l2d q4)), .second, .val (.ref bk103_0), .unset, .unset, .unset, .unset, .unset]) rfl ?_
      refine XS.aload Xk103.here hx rfl (hb hby at_242) rfl rfl ?_
      refine XS.dload Xk103.here hx rfl (hb hby at_244) rfl ?_
      refine XS.dload Xk103.here hx rfl (hb hby at_246) rfl ?_
      refine stk116 _ ?_
      show Steps p.tables e below (Tk116.setTop (mkF m 251 #[.val (.int p0), .val (.int p1), .val (.int p2), .val (.int p3), .val (.long q4), .second, .val (.int p5), .val (.int (own_v0_0 p0)), .val (.int (own_v0_1 p0 p1)), .val (.int (own_v0_2 p0 p2)), .val (.int 0), .val (.double (FP.i2d p3)), .second, .val (.double (FP.l2d q4)), .second, .val (.ref bn3), .val (.ref bk7_0), .val (.ref bn26), .val (.ref bk80_0), .val (.double (FP.i2d p3)), .second, .val (.double (FP.l2d q4)), .second, .val (.ref bk103_0), .unset, .unset, .unset, .unset, .unset] [(.int 1)])) _
      refine XS.ifYes Xk116.here hx rfl (pc0 := 251) (pc' := 256) rfl (hb hby at_251) rfl (XT.i0_ne_t (by decide : ¬ ((1 : Int32) = (0 : Int32)))) (by decide) (by decide) ?_
      refine XS.iload Xk116.here hx rfl (hb hby at_256) rfl ?_
      refine XS.ifYes Xk116.here hx rfl (pc0 := 258) (pc' := 270) rfl (hb hby at_258) rfl (XT.i0_eq_t (by decide : (0 : Int32) = (0 : Int32))) (by decide) (by decide) ?_
      refine XS.iload Xk116.here hx rfl (hb hby at_270) rfl ?_
      refine XS.iload Xk116.here hx rfl (hb hby at_272) rfl ?_
      refine stj117 _ ?_
      show Steps p.tables e below (Tj117.setTop (mkF m 298 #[.val (.int p0), .val (.int p1), .val (.int p2), .val (.int p3), .val (.long q4), .second, .val (.int p5), .val (.int (own_v0_0 p0)), .val (.int (own_v0_1 p0 p1)), .val (.int (own_v0_2 p0 p2)), .val (.int 0), .val (.double (FP.i2d p3)), .second, .val (.double (FP.l2d q4)), .second, .val (.ref bn3), .val (.ref bk7_0), .val (.ref bn26), .val (.ref bk80_0), .val (.double (FP.i2d p3)), .second, .val (.double (FP.l2d q4)), .second, .val (.ref bk103_0), .val (.double (own_j0_3 p0 p1 p2 p3)), .second, .val (.double (own_j0_4 p0 p1 p2 q4)), .second, .unset] [])) _
      refine XS.aload Xj117.here hx rfl (hb hby at_298) rfl rfl ?_
      refine XS.iload Xj117.here hx rfl (hb hby at_300) rfl ?_
      refine stk118.trans ?_
      show Steps p.tables e below (Tk118.setTop (mkF m 305 #[.val (.int p0), .val (.int p1), .val (.int p2), .val (.int p3), .val (.long q4), .second, .val (.int p5), .val (.int (own_v0_0 p0)), .val (.int (own_v0_1 p0 p1)), .val (.int (own_v0_2 p0 p2)), .val (.int 0), .val (.double (FP.i2d p3)), .second, .val (.double (FP.l2d q4)), .second, .val (.ref bn3), .val (.ref bk7_0), .val (.ref bn26), .val (.ref bk80_0), .val (.double (FP.i2d p3)), .second, .val (.double (FP.l2d q4)), .second, .val (.ref bk103_0), .val (.double (own_j0_3 p0 p1 p2 p3)), .second, .val (.double (own_j0_4 p0 p1 p2 q4)), .second, .unset] [(.ref bk118_0)])) _
      refine XS.astore Xk118.here hx rfl (hb hby at_305) rfl rfl (l' := #[.val (.int p0), .val (.int p1), .val (.int p2), .val (.int p3), .val (.long q4), .second, .val (.int p5), .val (.int (own_v0_0 p0)), .val (.int (own_v0_1 p0 p1)), .val (.int (own_v0_2 p0 p2)), .val (.int 0), .val (.double (FP.i2d p3)), .second, .val (.double (FP.l2d q4)), .second, .val (.ref bn3), .val (.ref bk7_0), .val (.ref bn26), .val (.ref bk80_0), .val (.double (FP.i2d p3)), .second, .val (.double (FP.l2d q4)), .second, .val (.ref bk103_0), .val (.double (own_j0_3 p0 p1 p2 p3)), .second, .val (.double (own_j0_4 p0 p1 p2 q4)), .second, .val (.ref bk118_0)]) rfl ?_
      refine XS.aload Xk118.here hx rfl (hb hby at_307) rfl rfl ?_
      refine XS.dload Xk118.here hx rfl (hb hby at_309) rfl ?_
      refine XS.dload Xk118.here hx rfl (hb hby at_311) rfl ?_
      refine stk125 _ ?_
      show Steps p.tables e below (Tk125.setTop (mkF m 316 #[.val (.int p0), .val (.int p1), .val (.int p2), .val (.int p3), .val (.long q4), .second, .val (.int p5), .val (.int (own_v0_0 p0)), .val (.int (own_v0_1 p0 p1)), .val (.int (own_v0_2 p0 p2)), .val (.int 0), .val (.double (FP.i2d p3)), .second, .val (.double (FP.l2d q4)), .second, .val (.ref bn3), .val (.ref bk7_0), .val (.ref bn26), .val (.ref bk80_0), .val (.double (FP.i2d p3)), .second, .val (.double (FP.l2d q4)), .second, .val (.ref bk103_0), .val (.double (own_j0_3 p0 p1 p2 p3)), .second, .val (.double (own_j0_4 p0 p1 p2 q4)), .second, .val (.ref bk118_0)] [(.int 1)])) _
      exact retN Xk125 hx (t := .boolean) Bd.returns (by simp) (hb hby at_316) hr
    · show own_Q0 Z p0 p1 p2 p3 q4 p5 h0 n0 _ Tk125.heap _
      rw [ek125]
      exact ⟨rfl, Nk125⟩
  · have K126 : ∀ t, Steps p.tables e below (s₁.setTop (mkF m 33 #[.val (.int p0), .val (.int p1), .val (.int p2), .val (.int p3), .val (.long q4), .second, .val (.int p5), .val (.int (own_v0_0 p0)), .val (.int (own_v0_1 p0 p1)), .val (.int (own_v0_2 p0 p2)), .unset, .unset, .unset, .unset, .unset, .unset, .unset, .unset, .unset, .unset, .unset, .unset, .unset, .unset, .unset, .unset, .unset, .unset, .unset] [])) t → Steps p.tables e below (s₁.setTop (mkF m 30 #[.val (.int p0), .val (.int p1), .val (.int p2), .val (.int p3), .val (.long q4), .second, .val (.int p5), .val (.int (own_v0_0 p0)), .val (.int (own_v0_1 p0 p1)), .val (.int (own_v0_2 p0 p2)), .unset, .unset, .unset, .unset, .unset, .unset, .unset, .unset, .unset, .unset, .unset, .unset, .unset, .unset, .unset, .unset, .unset, .unset, .unset] [(.int (p5 &&& (1 : Int32)))])) t := by
      intro t kt
      show Steps p.tables e below (s₁.setTop (mkF m 30 #[.val (.int p0), .val (.int p1), .val (.int p2), .val (.int p3), .val (.long q4), .second, .val (.int p5), .val (.int (own_v0_0 p0)), .val (.int (own_v0_1 p0 p1)), .val (.int (own_v0_2 p0 p2)), .unset, .unset, .unset, .unset, .unset, .unset, .unset, .unset, .unset, .unset, .unset, .unset, .unset, .unset, .unset, .unset, .unset, .unset, .unset] [(.int (p5 &&& (1 : Int32)))])) _
      refine XS.ifNo X0.here hx rfl (hb hby at_30) rfl (XT.i0_eq_f hs1) ?_
      exact kt
    obtain ⟨Tn127, hn127, Xn127, en127, En127, An127, Dn127, -, stn127⟩ := newO X0 hx hZ hown (own_W hw 1 rfl) (own_W hw 2 rfl) (own_W hw 3 rfl) e0 (g := (mkF m 49 #[.val (.int p0), .val (.int p1), .val (.int p2), .val (.int p3), .val (.long q4), .second, .val (.int p5), .val (.int (own_v0_0 p0)), .val (.int (own_v0_1 p0 p1)), .val (.int (own_v0_2 p0 p2)), .val (.int 1), .val (.double (FP.i2d p3)), .second, .val (.double (FP.l2d q4)), .second, .unset, .unset, .unset, .unset, .unset, .unset, .unset, .unset, .unset, .unset, .unset, .unset, .unset, .unset] [])) rfl (hb hby at_49) (by decide) (by decide)
    obtain ⟨bn127, gn127⟩ : ∃ z, z = h0.size := ⟨_, rfl⟩
    rw [← gn127] at An127 Dn127 stn127
    have g_bn127 : n0 ≤ bn127 := Nat.le_trans Z0 (Nat.le_of_eq gn127.symm)
    have sz_bn127 : h0.size ≤ bn127 := Nat.le_trans Zr (Nat.le_of_eq gn127.symm)
    have sz128 : h0.size ≤ hn127.size := Nat.le_trans Zr En127.1
    have F_scaleFactors_bn127 : Fld Z hn127 bn127 "com/example/evoluta/evoluta/algorithms/de/Jde$SelfAdaptation" "scaleFactors" "[D" .null := Dn127 (Or.inr (own_W hw 12 rfl)) (ty := (.array .double)) (by decide)
    have F_crossoverRates_bn127 : Fld Z hn127 bn127 "com/example/evoluta/evoluta/algorithms/de/Jde$SelfAdaptation" "crossoverRates" "[D" .null := Dn127 (Or.inr (own_W hw 14 rfl)) (ty := (.array .double)) (by decide)
    have F_trialScaleFactors_bn127 : Fld Z hn127 bn127 "com/example/evoluta/evoluta/algorithms/de/Jde$SelfAdaptation" "trialScaleFactors" "[D" .null := Dn127 (Or.inr (own_W hw 22 rfl)) (ty := (.array .double)) (by decide)
    have F_trialCrossoverRates_bn127 : Fld Z hn127 bn127 "com/example/evoluta/evoluta/algorithms/de/Jde$SelfAdaptation" "trialCrossoverRates" "[D" .null := Dn127 (Or.inr (own_W hw 24 rfl)) (ty := (.array .double)) (by decide)
    obtain ⟨_, _, ⟨Tk129, Lk129, kk129, nk129⟩, -, Xk129, ⟨Lck129, hQk129, lk129, yk129, zk129⟩, stk129⟩ := Xn127.specialBack hx (y := (⟨"com/example/evoluta/evoluta/algorithms/de/Jde$SelfAdaptation", "<init>", "(I)V"⟩ : MethodName)) rfl hown (mvT hZ (own_W hw 4 rfl)) (mvT hZ (own_W hw 5 rfl)) (mvT hZ (own_W hw 6 rfl)) (by decide) (backOf (W := 1) (own_rm1 l Z a0 hw [] bn127 (own_v0_0 p0) .null .null .null .null hn127 n0 (Nat.le_trans Z0 sz128) An127 F_scaleFactors_bn127 g_bn127 F_crossoverRates_bn127 F_trialScaleFactors_bn127 F_trialCrossoverRates_bn127 (c55_len6_2 hs1)) hZ (own_W hw 6 rfl) (own_W hw 3 rfl) (by decide) (by decide)) (g := (mkF m 55 #[.val (.int p0), .val (.int p1), .val (.int p2), .val (.int p3), .val (.long q4), .second, .val (.int p5), .val (.int (own_v0_0 p0)), .val (.int (own_v0_1 p0 p1)), .val (.int (own_v0_2 p0 p2)), .val (.int 1), .val (.double (FP.i2d p3)), .second, .val (.double (FP.l2d q4)), .second, .unset, .unset, .unset, .unset, .unset, .unset, .unset, .unset, .unset, .unset, .unset, .unset, .unset, .unset] [(.int (own_v0_0 p0)), (.ref bn127), (.ref bn127)])) rfl (by rw [hml]; rfl) (Steps.refl _) (a := bn127) (argsL := [(.int (own_v0_0 p0))]) (rest := [(.ref bn127)]) (lenOf own_pd1 rfl) rfl (by show 2 * 0 + _ ≤ _; exact Nat.le_of_eq rfl) (hb hby at_55) (fun _ _ => ⟨rfl, en127, (by decide : 1 + 4 ≤ _), (by decide : 4 + 32 ≤ _)⟩)
    dsimp only [Pt.U, Pt.locs, Pt.cells, Pt.slots] at Xk129 lk129 yk129 zk129 stk129 hQk129
    replace lk129 := lk129.symm; replace yk129 := yk129.symm; replace zk129 := zk129.symm; subst lk129 yk129 zk129
    obtain ⟨bk129_0, kk129_1, bk129_2, kk129_3, bk129_4, kk129_5, bk129_6, kk129_7, rfl, Nk129q, Kk129, lebk129_0, lebk129_2, lebk129_4, lebk129_6, nek129_0, nek129_1, nek129_2, nek129_3, nek129_4, nek129_5, Qk129_0, Qk129_1, Qk129_2, Qk129_3, Qk129_4, Qk129_5, Qk129_6, Qk129_7, Qk129_8⟩ := hQk129
    have g_bk129_0 : n0 ≤ bk129_0 := Nat.le_trans (Nat.le_trans Z0 sz128) lebk129_0
    have sz_bk129_0 : h0.size ≤ bk129_0 := Nat.le_trans sz128 lebk129_0
    have g_bk129_2 : n0 ≤ bk129_2 := Nat.le_trans (Nat.le_trans Z0 sz128) lebk129_2
    have sz_bk129_2 : h0.size ≤ bk129_2 := Nat.le_trans sz128 lebk129_2
    have g_bk129_4 : n0 ≤ bk129_4 := Nat.le_trans (Nat.le_trans Z0 sz128) lebk129_4
    have sz_bk129_4 : h0.size ≤ bk129_4 := Nat.le_trans sz128 lebk129_4
    have g_bk129_6 : n0 ≤ bk129_6 := Nat.le_trans (Nat.le_trans Z0 sz128) lebk129_6
    have sz_bk129_6 : h0.size ≤ bk129_6 := Nat.le_trans sz128 lebk129_6
    have sz130 : h0.size ≤ Tk129.heap.size := Nat.le_trans sz128 Kk129.1
    have Nk129 := Fr.app N0 Nk129q
    obtain ⟨cqk131, kqk131, qk131a, qk131b, qk131c⟩ := isOf hZ rfl Qk129_0
    obtain ⟨_, _, ⟨Tk131, Lk131, kk131, nk131⟩, -, Xk131, ⟨Lck131, hQk131, lk131, yk131, zk131⟩, stk131⟩ := Xk129.virtualBack hx (y := (⟨"com/example/evoluta/evoluta/algorithms/de/Jde$SelfAdaptation", "parameters", "(I)[[D"⟩ : MethodName)) (z := (⟨"com/example/evoluta/evoluta/algorithms/de/Jde$SelfAdaptation", "parameters", "(I)[[D"⟩ : MethodName)) hown (mvT hZ (own_W hw 25 rfl)) (mvT hZ (own_W hw 26 rfl)) (notFace_of_selects (args := #[]) (mvT hZ (own_W hw 28 rfl))) (mvT hZ (own_W hw 28 rfl)) (mvT hZ (own_W hw 27 rfl)) (by decide) (backOf (W := 0) (own_rm4 l Z a0 hw [] bn127 (own_v0_2 p0 p2) bk129_0 kk129_1 (own_v0_0 p0) (own_cst (4602678819172646912 : UInt64)) bk129_2 kk129_3 (own_v0_0 p0) (own_cst (4606281698874543309 : UInt64)) Tk129.heap n0 (Nat.le_trans Z0 sz130) Qk129_1 Qk129_5 Qk129_2 Qk129_6 (c64_in16_2 hs1) (c64_in16_2 hs1)) hZ (own_W hw 29 rfl) (own_W hw 3 rfl) (by decide) (by decide)) qk131a qk131c (g := (mkF m 64 #[.val (.int p0), .val (.int p1), .val (.int p2), .val (.int p3), .val (.long q4), .second, .val (.int p5), .val (.int (own_v0_0 p0)), .val (.int (own_v0_1 p0 p1)), .val (.int (own_v0_2 p0 p2)), .val (.int 1), .val (.double (FP.i2d p3)), .second, .val (.double (FP.l2d q4)), .second, .val (.ref bn127), .unset, .unset, .unset, .unset, .unset, .unset, .unset, .unset, .unset, .unset, .unset, .unset, .unset] [(.int (own_v0_2 p0 p2)), (.ref bn127)])) rfl (by rw [hml]; rfl) (Steps.refl _) (argsL := [(.int (own_v0_2 p0 p2))]) (rest := []) (lenOf own_pd2 rfl) rfl (by show 2 * 0 + _ ≤ _; exact Nat.le_of_eq rfl) (hb hby at_64) (fun _ _ => ⟨rfl, rfl, (by decide : 5 + 3 ≤ _), (by decide : 36 + 4 ≤ _)⟩)
    dsimp only [Pt.U, Pt.locs, Pt.cells, Pt.slots] at Xk131 lk131 yk131 zk131 stk131 hQk131
    replace lk131 := lk131.symm; replace yk131 := yk131.symm; replace zk131 := zk131.symm; subst lk131 yk131 zk131
    obtain ⟨bk131_0, kk131_1, bk131_2, kk131_3, bk131_4, kk131_5, rfl, Nk131q, Kk131, lebk131_0, lebk131_2, lebk131_4, nek131_0, nek131_1, nek131_2, Qk131_0, Qk131_1, Qk131_2, Qk131_3, Qk131_4, Qk131_5⟩ := hQk131
    have g_bk131_0 : n0 ≤ bk131_0 := Nat.le_trans (Nat.le_trans Z0 sz130) lebk131_0
    have sz_bk131_0 : h0.size ≤ bk131_0 := Nat.le_trans sz130 lebk131_0
    have g_bk131_2 : n0 ≤ bk131_2 := Nat.le_trans (Nat.le_trans Z0 sz130) lebk131_2
    have sz_bk131_2 : h0.size ≤ bk131_2 := Nat.le_trans sz130 lebk131_2
    have g_bk131_4 : n0 ≤ bk131_4 := Nat.le_trans (Nat.le_trans Z0 sz130) lebk131_4
    have sz_bk131_4 : h0.size ≤ bk131_4 := Nat.le_trans sz130 lebk131_4
    have sz132 : h0.size ≤ Tk131.heap.size := Nat.le_trans sz130 Kk131.1
    have Nk131 := Fr.app Nk129 Nk131q
    obtain ⟨_, _, ⟨Tk133, Lk133, kk133, nk133⟩, -, Xk133, ⟨Lck133, hQk133, lk133, yk133, zk133⟩, stk133⟩ := Jvm.LawKit.callS Xk131 hx (y := (⟨"com/example/evoluta/evoluta/algorithms/de/SelfAdaptationParametersPinLaw", "is", "([[DDD)Z"⟩ : MethodName)) hown (mvT hZ (own_W hw 35 rfl)) (mvT hZ (own_W hw 36 rfl)) (mvT hZ (own_W hw 37 rfl)) (mvT hZ (own_W hw 38 rfl)) (by decide) (backOf (W := 0) (own_rm5 l Z a0 hw [] bk131_0 (4602678819172646912 : UInt64) (4606281698874543309 : UInt64) kk131_1 bk131_2 bk131_4 kk131_3 (own_v4_0 (own_v0_2 p0 p2) (own_cst (4602678819172646912 : UInt64))) kk131_5 (own_v4_1 (own_v0_2 p0 p2) (own_cst (4606281698874543309 : UInt64))) Tk131.heap n0 (Nat.le_trans Z0 sz132) Qk131_1 Qk131_3 Qk131_5 (c77_hc51_2 hs1) (c77_hc61_2 hs1)) hZ (own_W hw 38 rfl) (own_W hw 37 rfl) (by decide) (by decide)) (g := (mkF m 77 #[.val (.int p0), .val (.int p1), .val (.int p2), .val (.int p3), .val (.long q4), .second, .val (.int p5), .val (.int (own_v0_0 p0)), .val (.int (own_v0_1 p0 p1)), .val (.int (own_v0_2 p0 p2)), .val (.int 1), .val (.double (FP.i2d p3)), .second, .val (.double (FP.l2d q4)), .second, .val (.ref bn127), .val (.ref bk131_0), .unset, .unset, .unset, .unset, .unset, .unset, .unset, .unset, .unset, .unset, .unset, .unset] [(.double 4606281698874543309), (.double 4602678819172646912), (.ref bk131_0)])) rfl (by rw [hml]; rfl) (argsL := [(.ref bk131_0), (.double 4602678819172646912), (.double 4606281698874543309)]) (rest := []) (lenOf own_pd3 rfl) rfl (by show 2 * 0 + _ ≤ _; exact Nat.le_of_eq rfl) (hb hby at_77) (fun _ _ => ⟨rfl, rfl, (by decide : 8 + 0 ≤ _), (by decide : 40 + 0 ≤ _)⟩)
    dsimp only [Pt.U, Pt.locs, Pt.cells, Pt.slots] at Xk133 lk133 yk133 zk133 stk133 hQk133
    replace lk133 := lk133.symm; replace yk133 := yk133.symm; replace zk133 := zk133.symm; subst lk133 yk133 zk133
    obtain ⟨rfl, Nk133q, ek133⟩ := hQk133
    have Nk133 := Fr.app Nk131 Nk133q
    obtain ⟨clo134, Aro134, qo134, So134, No134, Ho134, Go134⟩ := id Qk131_1
    have hi135 := inb_of (j := (0 : Int32)) So134 ⟨by decide, by decide⟩
    have ha136 : _ = some (Value.ref bk131_2) := Ho134.at hi135 rfl
    obtain ⟨clo137, Aro137, qo137, So137, No137, Ho137, Go137⟩ := id Qk131_3
    have hi138 := inb_of (j := (0 : Int32)) So137 ⟨by decide, by decide⟩
    obtain ⟨To139, ho139, Xo139, eo139, Wo139, sto139⟩ := stD Xk133 hx hZ ek133 Aro137 (j := (0 : Int32)) hi138 (g := (mkF m 93 #[.val (.int p0), .val (.int p1), .val (.int p2), .val (.int p3), .val (.long q4), .second, .val (.int p5), .val (.int (own_v0_0 p0)), .val (.int (own_v0_1 p0 p1)), .val (.int (own_v0_2 p0 p2)), .val (.int 1), .val (.double (FP.i2d p3)), .second, .val (.double (FP.l2d q4)), .second, .val (.ref bn127), .val (.ref bk131_0), .unset, .unset, .unset, .unset, .unset, .unset, .unset, .unset, .unset, .unset, .unset, .unset] [(.double 4598175219545276416), (.int 0), (.ref bk131_2)])) rfl rfl (hb hby at_93)
    have Vwo139 : Arv Z ho139 bk131_2 kk131_3 .double (1 : Int32) [(.double 4598175219545276416)] (.double 0) := Arv.set Aro137 qo137 So137 No137 Ho137 Go137 rfl Wo139 0 rfl (Nat.le_of_ble_eq_true rfl)
    have sz140 : h0.size ≤ ho139.size := Nat.le_trans sz132 (Nat.le_of_eq Wo139.size.symm)
    have Nfo139 := Fr.snoc Xo139 Nk133 g_bk131_2
    have F141 := (Qk131_1.other Wo139 nek131_0)
    obtain ⟨clo142, Aro142, qo142, So142, No142, Ho142, Go142⟩ := id F141
    have hi143 := inb_of (j := (1 : Int32)) So142 ⟨by decide, by decide⟩
    have ha144 : _ = some (Value.ref bk131_4) := Ho142.at hi143 rfl
    have F145 := (Qk131_5.other Wo139 (Ne.symm nek131_2))
    obtain ⟨clo146, Aro146, qo146, So146, No146, Ho146, Go146⟩ := id F145
    have hi147 := inb_of (j := (0 : Int32)) So146 ⟨by decide, by decide⟩
    obtain ⟨To148, ho148, Xo148, eo148, Wo148, sto148⟩ := stD Xo139 hx hZ eo139 Aro146 (j := (0 : Int32)) hi147 (g := (mkF m 102 #[.val (.int p0), .val (.int p1), .val (.int p2), .val (.int p3), .val (.long q4), .second, .val (.int p5), .val (.int (own_v0_0 p0)), .val (.int (own_v0_1 p0 p1)), .val (.int (own_v0_2 p0 p2)), .val (.int 1), .val (.double (FP.i2d p3)), .second, .val (.double (FP.l2d q4)), .second, .val (.ref bn127), .val (.ref bk131_0), .unset, .unset, .unset, .unset, .unset, .unset, .unset, .unset, .unset, .unset, .unset, .unset] [(.double 4598175219545276416), (.int 0), (.ref bk131_4)])) rfl rfl (hb hby at_102)
    have Vwo148 : Arv Z ho148 bk131_4 kk131_5 .double (1 : Int32) [(.double 4598175219545276416)] (.double 0) := Arv.set Aro146 qo146 So146 No146 Ho146 Go146 rfl Wo148 0 rfl (Nat.le_of_ble_eq_true rfl)
    have sz149 : h0.size ≤ ho148.size := Nat.le_trans sz140 (Nat.le_of_eq Wo148.size.symm)
    have Nfo148 := Fr.snoc Xo148 Nfo139 g_bk131_4
    obtain ⟨Tn150, hn150, kn150, Xn150, en150, En150, An150, Exn150, On150, stn150⟩ := newRA Xo148 hx hZ hown (ty := .double) (C := "[D") (by decide) (own_W hw 40 rfl) (own_W hw 31 rfl) eo148 (g := (mkF m 104 #[.val (.int p0), .val (.int p1), .val (.int p2), .val (.int p3), .val (.long q4), .second, .val (.int p5), .val (.int (own_v0_0 p0)), .val (.int (own_v0_1 p0 p1)), .val (.int (own_v0_2 p0 p2)), .val (.int 1), .val (.double (FP.i2d p3)), .second, .val (.double (FP.l2d q4)), .second, .val (.ref bn127), .val (.ref bk131_0), .unset, .unset, .unset, .unset, .unset, .unset, .unset, .unset, .unset, .unset, .unset, .unset] [(.int 2)])) rfl (hb hby at_104) rfl (by decide) (cap := 2) (by decide) (by decide) (by decide) (by decide) (ad := "[[D") (by decide)
    obtain ⟨bn150, gn150⟩ : ∃ z, z = ho148.size := ⟨_, rfl⟩
    rw [← gn150] at An150 Exn150 stn150
    have g_bn150 : n0 ≤ bn150 := Nat.le_trans (Nat.le_trans Z0 sz149) (Nat.le_of_eq gn150.symm)
    have sz_bn150 : h0.size ≤ bn150 := Nat.le_trans sz149 (Nat.le_of_eq gn150.symm)
    have sz151 : h0.size ≤ hn150.size := Nat.le_trans sz149 En150.1
    have V_bn150 : Arv Z hn150 bn150 kn150 (.array .double) (2 : Int32) [.null, .null] .null := (Arv.new An150 (by decide)).pad (pad_rep [] .null 2)
    obtain ⟨Tn152, hn152, kn152, Xn152, en152, En152, An152, Exn152, stn152⟩ := newPE Xn150 hx hZ (own_W hw 10 rfl) en150 (g := (mkF m 110 #[.val (.int p0), .val (.int p1), .val (.int p2), .val (.int p3), .val (.long q4), .second, .val (.int p5), .val (.int (own_v0_0 p0)), .val (.int (own_v0_1 p0 p1)), .val (.int (own_v0_2 p0 p2)), .val (.int 1), .val (.double (FP.i2d p3)), .second, .val (.double (FP.l2d q4)), .second, .val (.ref bn127), .val (.ref bk131_0), .unset, .unset, .unset, .unset, .unset, .unset, .unset, .unset, .unset, .unset, .unset, .unset] [(.int 1), (.int 0), (.ref bn150), (.ref bn150)])) rfl (hb hby at_110) rfl (by decide) (cap := 1) (by decide) (by decide) (by decide) (by decide) (ad := "[D") (by decide)
    obtain ⟨bn152, gn152⟩ : ∃ z, z = hn150.size := ⟨_, rfl⟩
    rw [← gn152] at An152 Exn152 stn152
    have g_bn152 : n0 ≤ bn152 := Nat.le_trans (Nat.le_trans Z0 sz151) (Nat.le_of_eq gn152.symm)
    have sz_bn152 : h0.size ≤ bn152 := Nat.le_trans sz151 (Nat.le_of_eq gn152.symm)
    have sz153 : h0.size ≤ hn152.size := Nat.le_trans sz151 En152.1
    have V_bn152 : Arv Z hn152 bn152 kn152 .double (1 : Int32) [(.double 0)] (.double 0) := (Arv.new An152 (by decide)).pad (pad_rep [] (.double 0) 1)
    obtain ⟨clo154, Aro154, qo154, So154, No154, Ho154, Go154⟩ := id V_bn152
    have hi155 := inb_of (j := (0 : Int32)) So154 ⟨by decide, by decide⟩
    obtain ⟨To156, ho156, Xo156, eo156, Wo156, sto156⟩ := stD Xn152 hx hZ en152 Aro154 (j := (0 : Int32)) hi155 (g := (mkF m 116 #[.val (.int p0), .val (.int p1), .val (.int p2), .val (.int p3), .val (.long q4), .second, .val (.int p5), .val (.int (own_v0_0 p0)), .val (.int (own_v0_1 p0 p1)), .val (.int (own_v0_2 p0 p2)), .val (.int 1), .val (.double (FP.i2d p3)), .second, .val (.double (FP.l2d q4)), .second, .val (.ref bn127), .val (.ref bk131_0), .unset, .unset, .unset, .unset, .unset, .unset, .unset, .unset, .unset, .unset, .unset, .unset] [(.double (FP.i2d p3)), (.int 0), (.ref bn152), (.ref bn152), (.int 0), (.ref bn150), (.ref bn150)])) rfl rfl (hb hby at_116)
    have Vwo156 : Arv Z ho156 bn152 kn152 .double (1 : Int32) [(.double (FP.i2d p3))] (.double 0) := Arv.set Aro154 qo154 So154 No154 Ho154 Go154 rfl Wo156 0 rfl (Nat.le_of_ble_eq_true rfl)
    have sz157 : h0.size ≤ ho156.size := Nat.le_trans sz153 (Nat.le_of_eq Wo156.size.symm)
    have Nfo156 := Fr.snoc Xo156 Nfo148 g_bn152
    have ne158 : bn150 ≠ bn152 := (Nat.ne_of_lt (Nat.lt_of_lt_of_le V_bn150.lt (Nat.le_of_eq gn152.symm)))
    have F159 := ((V_bn150.ext En152).other Wo156 ne158)
    obtain ⟨clo160, Aro160, qo160, So160, No160, Ho160, Go160⟩ := id F159
    have hi161 := inb_of (j := (0 : Int32)) So160 ⟨by decide, by decide⟩
    have F163 := (Exn152.wr Wo156)
    obtain ⟨To162, ho162, Xo162, eo162, Wo162, sto162⟩ := stR Xo156 hx hZ eo156 Aro160 (j := (0 : Int32)) hi161 rfl (Sto.ofVA Aro160 qo160 On150 (Ins.self F163)) (g := (mkF m 117 #[.val (.int p0), .val (.int p1), .val (.int p2), .val (.int p3), .val (.long q4), .second, .val (.int p5), .val (.int (own_v0_0 p0)), .val (.int (own_v0_1 p0 p1)), .val (.int (own_v0_2 p0 p2)), .val (.int 1), .val (.double (FP.i2d p3)), .second, .val (.double (FP.l2d q4)), .second, .val (.ref bn127), .val (.ref bk131_0), .unset, .unset, .unset, .unset, .unset, .unset, .unset, .unset, .unset, .unset, .unset, .unset] [(.ref bn152), (.int 0), (.ref bn150), (.ref bn150)])) rfl rfl (hb hby at_117)
    have Vwo162 : Arv Z ho162 bn150 kn150 (.array .double) (2 : Int32) [(.ref bn152), .null] .null := Arv.set Aro160 qo160 So160 No160 Ho160 Go160 rfl Wo162 0 rfl (Nat.le_of_ble_eq_true rfl)
    have sz164 : h0.size ≤ ho162.size := Nat.le_trans sz157 (Nat.le_of_eq Wo162.size.symm)
    have Nfo162 := Fr.snoc Xo162 Nfo156 g_bn150
    obtain ⟨Tn165, hn165, kn165, Xn165, en165, En165, An165, Exn165, stn165⟩ := newPE Xo162 hx hZ (own_W hw 10 rfl) eo162 (g := (mkF m 121 #[.val (.int p0), .val (.int p1), .val (.int p2), .val (.int p3), .val (.long q4), .second, .val (.int p5), .val (.int (own_v0_0 p0)), .val (.int (own_v0_1 p0 p1)), .val (.int (own_v0_2 p0 p2)), .val (.int 1), .val (.double (FP.i2d p3)), .second, .val (.double (FP.l2d q4)), .second, .val (.ref bn127), .val (.ref bk131_0), .unset, .unset, .unset, .unset, .unset, .unset, .unset, .unset, .unset, .unset, .unset, .unset] [(.int 1), (.int 1), (.ref bn150), (.ref bn150)])) rfl (hb hby at_121) rfl (by decide) (cap := 1) (by decide) (by decide) (by decide) (by decide) (ad := "[D") (by decide)
    obtain ⟨bn165, gn165⟩ : ∃ z, z = ho162.size := ⟨_, rfl⟩
    rw [← gn165] at An165 Exn165 stn165
    have g_bn165 : n0 ≤ bn165 := Nat.le_trans (Nat.le_trans Z0 sz164) (Nat.le_of_eq gn165.symm)
    have sz_bn165 : h0.size ≤ bn165 := Nat.le_trans sz164 (Nat.le_of_eq gn165.symm)
    have sz166 : h0.size ≤ hn165.size := Nat.le_trans sz164 En165.1
    have V_bn165 : Arv Z hn165 bn165 kn165 .double (1 : Int32) [(.double 0)] (.double 0) := (Arv.new An165 (by decide)).pad (pad_rep [] (.double 0) 1)
    obtain ⟨clo167, Aro167, qo167, So167, No167, Ho167, Go167⟩ := id V_bn165
    have hi168 := inb_of (j := (0 : Int32)) So167 ⟨by decide, by decide⟩
    obtain ⟨To169, ho169, Xo169, eo169, Wo169, sto169⟩ := stD Xn165 hx hZ en165 Aro167 (j := (0 : Int32)) hi168 (g := (mkF m 127 #[.val (.int p0), .val (.int p1), .val (.int p2), .val (.int p3), .val (.long q4), .second, .val (.int p5), .val (.int (own_v0_0 p0)), .val (.int (own_v0_1 p0 p1)), .val (.int (own_v0_2 p0 p2)), .val (.int 1), .val (.double (FP.i2d p3)), .second, .val (.double (FP.l2d q4)), .second, .val (.ref bn127), .val (.ref bk131_0), .unset, .unset, .unset, .unset, .unset, .unset, .unset, .unset, .unset, .unset, .unset, .unset] [(.double (FP.l2d q4)), (.int 0), (.ref bn165), (.ref bn165), (.int 1), (.ref bn150), (.ref bn150)])) rfl rfl (hb hby at_127)
    have Vwo169 : Arv Z ho169 bn165 kn165 .double (1 : Int32) [(.double (FP.l2d q4))] (.double 0) := Arv.set Aro167 qo167 So167 No167 Ho167 Go167 rfl Wo169 0 rfl (Nat.le_of_ble_eq_true rfl)
    have sz170 : h0.size ≤ ho169.size := Nat.le_trans sz166 (Nat.le_of_eq Wo169.size.symm)
    have Nfo169 := Fr.snoc Xo169 Nfo162 g_bn165
    have ne171 : bn150 ≠ bn165 := (Nat.ne_of_lt (Nat.lt_of_lt_of_le Vwo162.lt (Nat.le_of_eq gn165.symm)))
    have F172 := ((Vwo162.ext En165).other Wo169 ne171)
    obtain ⟨clo173, Aro173, qo173, So173, No173, Ho173, Go173⟩ := id F172
    have hi174 := inb_of (j := (1 : Int32)) So173 ⟨by decide, by decide⟩
    have F176 := (Exn165.wr Wo169)
    obtain ⟨To175, ho175, Xo175, eo175, Wo175, sto175⟩ := stR Xo169 hx hZ eo169 Aro173 (j := (1 : Int32)) hi174 rfl (Sto.ofVA Aro173 qo173 On150 (Ins.self F176)) (g := (mkF m 128 #[.val (.int p0), .val (.int p1), .val (.int p2), .val (.int p3), .val (.long q4), .second, .val (.int p5), .val (.int (own_v0_0 p0)), .val (.int (own_v0_1 p0 p1)), .val (.int (own_v0_2 p0 p2)), .val (.int 1), .val (.double (FP.i2d p3)), .second, .val (.double (FP.l2d q4)), .second, .val (.ref bn127), .val (.ref bk131_0), .unset, .unset, .unset, .unset, .unset, .unset, .unset, .unset, .unset, .unset, .unset, .unset] [(.ref bn165), (.int 1), (.ref bn150), (.ref bn150)])) rfl rfl (hb hby at_128)
    have Vwo175 : Arv Z ho175 bn150 kn150 (.array .double) (2 : Int32) [(.ref bn152), (.ref bn165)] .null := Arv.set Aro173 qo173 So173 No173 Ho173 Go173 rfl Wo175 1 rfl (Nat.le_of_ble_eq_true rfl)
    have sz177 : h0.size ≤ ho175.size := Nat.le_trans sz170 (Nat.le_of_eq Wo175.size.symm)
    have Nfo175 := Fr.snoc Xo175 Nfo169 g_bn150
    have ne179 : bk129_0 ≠ bn127 := (Ne.symm (Nat.ne_of_lt (Nat.lt_of_lt_of_le F_trialCrossoverRates_bn127.lt lebk129_0)))
    have ne180 : bk129_0 ≠ bk131_2 := (Nat.ne_of_lt (Nat.lt_of_lt_of_le Qk129_5.lt lebk131_2))
    have ne181 : bk129_0 ≠ bk131_4 := (Nat.ne_of_lt (Nat.lt_of_lt_of_le Qk129_5.lt lebk131_4))
    have ne182 : bk129_0 ≠ bn150 := (Ne.symm (Ne.symm (Nat.ne_of_lt (Nat.lt_of_lt_of_le (((Qk129_5.keep Kk131 nin0).other Wo139 ne180).other Wo148 ne181).lt (Nat.le_of_eq gn150.symm)))))
    have ne183 : bk129_0 ≠ bn152 := (Nat.ne_of_lt (Nat.lt_of_lt_of_le ((((Qk129_5.keep Kk131 nin0).other Wo139 ne180).other Wo148 ne181).ext En150).lt (Nat.le_of_eq gn152.symm)))
    have ne184 : bk129_0 ≠ bn165 := (Nat.ne_of_lt (Nat.lt_of_lt_of_le (((((((Qk129_5.keep Kk131 nin0).other Wo139 ne180).other Wo148 ne181).ext En150).ext En152).other Wo156 ne183).other Wo162 ne182).lt (Nat.le_of_eq gn165.symm)))
    have ne185 : bk131_2 ≠ bn127 := (Ne.symm (Nat.ne_of_lt (Nat.lt_of_lt_of_le Qk129_4.lt lebk131_2)))
    have ne186 : bk131_4 ≠ bn127 := (Ne.symm (Nat.ne_of_lt (Nat.lt_of_lt_of_le Qk129_4.lt lebk131_4)))
    have ne187 : bn127 ≠ bn152 := (Nat.ne_of_lt (Nat.lt_of_lt_of_le ((((Qk129_4.keep Kk131 nin0).other Wo139 (Or.inl (Ne.symm ne185))).other Wo148 (Or.inl (Ne.symm ne186))).ext En150).lt (Nat.le_of_eq gn152.symm)))
    have ne188 : bn127 ≠ bn150 := (Nat.ne_of_lt (Nat.lt_of_lt_of_le (((Qk129_4.keep Kk131 nin0).other Wo139 (Or.inl (Ne.symm ne185))).other Wo148 (Or.inl (Ne.symm ne186))).lt (Nat.le_of_eq gn150.symm)))
    have ne189 : bn127 ≠ bn165 := (Nat.ne_of_lt (Nat.lt_of_lt_of_le (((((((Qk129_4.keep Kk131 nin0).other Wo139 (Or.inl (Ne.symm ne185))).other Wo148 (Or.inl (Ne.symm ne186))).ext En150).ext En152).other Wo156 (Or.inl ne187)).other Wo162 (Or.inl ne188)).lt (Nat.le_of_eq gn165.symm)))
    have F190 := ((((((((((Qk129_1.keep Kk131 nin0).other Wo139 (Or.inl (Ne.symm ne185))).other Wo148 (Or.inl (Ne.symm ne186))).ext En150).ext En152).other Wo156 (Or.inl ne187)).other Wo162 (Or.inl ne188)).ext En165).other Wo169 (Or.inl ne189)).other Wo175 (Or.inl ne188))
    have ne191 : bn152 ≠ bn165 := (Nat.ne_of_lt (Nat.lt_of_lt_of_le (F163.wr Wo162).lt (Nat.le_of_eq gn165.symm)))
    have F192 := ((((Vwo156.other Wo162 (Ne.symm ne158)).ext En165).other Wo169 ne191).other Wo175 (Ne.symm ne158))
    have F193 := ((((((((((Qk129_5.keep Kk131 nin0).other Wo139 ne180).other Wo148 ne181).ext En150).ext En152).other Wo156 ne183).other Wo162 ne182).ext En165).other Wo169 ne184).other Wo175 ne182)
    have F194 := ((((((((((Qk129_2.keep Kk131 nin0).other Wo139 (Or.inl (Ne.symm ne185))).other Wo148 (Or.inl (Ne.symm ne186))).ext En150).ext En152).other Wo156 (Or.inl ne187)).other Wo162 (Or.inl ne188)).ext En165).other Wo169 (Or.inl ne189)).other Wo175 (Or.inl ne188))
    have F195 := (Vwo169.other Wo175 (Ne.symm ne171))
    have ne196 : bk129_2 ≠ bk131_2 := (Nat.ne_of_lt (Nat.lt_of_lt_of_le Qk129_6.lt lebk131_2))
    have ne197 : bk129_2 ≠ bk131_4 := (Nat.ne_of_lt (Nat.lt_of_lt_of_le Qk129_6.lt lebk131_4))
    have ne198 : bk129_2 ≠ bn152 := (Nat.ne_of_lt (Nat.lt_of_lt_of_le ((((Qk129_6.keep Kk131 nin0).other Wo139 ne196).other Wo148 ne197).ext En150).lt (Nat.le_of_eq gn152.symm)))
    have ne199 : bk129_2 ≠ bn150 := (Nat.ne_of_lt (Nat.lt_of_lt_of_le (((Qk129_6.keep Kk131 nin0).other Wo139 ne196).other Wo148 ne197).lt (Nat.le_of_eq gn150.symm)))
    have ne200 : bk129_2 ≠ bn165 := (Nat.ne_of_lt (Nat.lt_of_lt_of_le (((((((Qk129_6.keep Kk131 nin0).other Wo139 ne196).other Wo148 ne197).ext En150).ext En152).other Wo156 ne198).other Wo162 ne199).lt (Nat.le_of_eq gn165.symm)))
    have F201 := ((((((((((Qk129_6.keep Kk131 nin0).other Wo139 ne196).other Wo148 ne197).ext En150).ext En152).other Wo156 ne198).other Wo162 ne199).ext En165).other Wo169 ne200).other Wo175 ne199)
    have F202 := ((((((((((Qk129_0.keep Kk131).wr Wo139).wr Wo148).ext En150).ext En152).wr Wo156).wr Wo162).ext En165).wr Wo169).wr Wo175)
    obtain ⟨cqk178, kqk178, qk178a, qk178b, qk178c⟩ := isOf hZ eo175 F202
    obtain ⟨_, _, ⟨Tk178, Lk178, kk178, nk178⟩, -, Xk178, ⟨Lck178, hQk178, lk178, yk178, zk178⟩, stk178⟩ := Xo175.virtualBack hx (y := (⟨"com/example/evoluta/evoluta/algorithms/de/Jde$SelfAdaptation", "setParameters", "(I[[D)V"⟩ : MethodName)) (z := (⟨"com/example/evoluta/evoluta/algorithms/de/Jde$SelfAdaptation", "setParameters", "(I[[D)V"⟩ : MethodName)) hown (mvT hZ (own_W hw 41 rfl)) (mvT hZ (own_W hw 42 rfl)) (notFace_of_selects (args := #[]) (mvT hZ (own_W hw 44 rfl))) (mvT hZ (own_W hw 44 rfl)) (mvT hZ (own_W hw 43 rfl)) (by decide) (backOf (W := 0) (own_rm6 l Z a0 hw [] bn127 (own_v0_1 p0 p1) bn150 bk129_0 kn150 bn152 bn165 kn152 (FP.i2d p3) kk129_1 (own_v0_0 p0) (own_cst (4602678819172646912 : UInt64)) bk129_2 kn165 (FP.l2d q4) kk129_3 (own_v0_0 p0) (own_cst (4606281698874543309 : UInt64)) ho175 n0 (Nat.le_trans Z0 sz177) F190 Vwo175 F192 F193 g_bk129_0 F194 F195 F201 g_bk129_2 (c137_in10_2 hs1) (Ne.symm ne179) (Ne.symm ne182) ne184 (Ne.symm nek129_0) (c137_in10_2 hs1)) hZ (own_W hw 45 rfl) (own_W hw 3 rfl) (by decide) (by decide)) qk178a qk178c (g := (mkF m 137 #[.val (.int p0), .val (.int p1), .val (.int p2), .val (.int p3), .val (.long q4), .second, .val (.int p5), .val (.int (own_v0_0 p0)), .val (.int (own_v0_1 p0 p1)), .val (.int (own_v0_2 p0 p2)), .val (.int 1), .val (.double (FP.i2d p3)), .second, .val (.double (FP.l2d q4)), .second, .val (.ref bn127), .val (.ref bk131_0), .val (.ref bn150), .unset, .unset, .unset, .unset, .unset, .unset, .unset, .unset, .unset, .unset, .unset] [(.ref bn150), (.int (own_v0_1 p0 p1)), (.ref bn127)])) rfl (by rw [hml]; rfl) (Steps.refl _) (argsL := [(.int (own_v0_1 p0 p1)), (.ref bn150)]) (rest := []) (lenOf own_pd4 rfl) rfl (by show 2 * 0 + _ ≤ _; exact Nat.le_of_eq rfl) (hb hby at_137) (fun _ _ => ⟨rfl, eo175, (by decide : 11 + 0 ≤ _), (by decide : 44 + 0 ≤ _)⟩)
    dsimp only [Pt.U, Pt.locs, Pt.cells, Pt.slots] at Xk178 lk178 yk178 zk178 stk178 hQk178
    replace lk178 := lk178.symm; replace yk178 := yk178.symm; replace zk178 := zk178.symm; subst lk178 yk178 zk178
    obtain ⟨rfl, Nk178q, Kk178, Qk178_0, Qk178_1⟩ := hQk178
    have sz203 : h0.size ≤ Tk178.heap.size := Nat.le_trans sz177 Kk178.1
    have Nk178 := Fr.app Nfo175 Nk178q
    have ne205 : bk129_2 ≠ bn127 := (Ne.symm (Nat.ne_of_lt (Nat.lt_of_lt_of_le F_trialCrossoverRates_bn127.lt lebk129_2)))
    have F206 := (F190.keep Kk178 (ninS (Ne.symm ne179) (ninS (Ne.symm ne205) nin0)))
    have F207 := (F194.keep Kk178 (ninS (Ne.symm ne179) (ninS (Ne.symm ne205) nin0)))
    have F208 := (F202.keep Kk178)
    obtain ⟨cqk204, kqk204, qk204a, qk204b, qk204c⟩ := isOf hZ rfl F208
    obtain ⟨_, _, ⟨Tk204, Lk204, kk204, nk204⟩, -, Xk204, ⟨Lck204, hQk204, lk204, yk204, zk204⟩, stk204⟩ := Xk178.virtualBack hx (y := (⟨"com/example/evoluta/evoluta/algorithms/de/Jde$SelfAdaptation", "parameters", "(I)[[D"⟩ : MethodName)) (z := (⟨"com/example/evoluta/evoluta/algorithms/de/Jde$SelfAdaptation", "parameters", "(I)[[D"⟩ : MethodName)) hown (mvT hZ (own_W hw 25 rfl)) (mvT hZ (own_W hw 26 rfl)) (notFace_of_selects (args := #[]) (mvT hZ (own_W hw 28 rfl))) (mvT hZ (own_W hw 28 rfl)) (mvT hZ (own_W hw 27 rfl)) (by decide) (backOf (W := 0) (own_rm4 l Z a0 hw [] bn127 (own_v0_1 p0 p1) bk129_0 kk129_1 (own_v0_0 p0) (own_upd (own_cst (4602678819172646912 : UInt64)) (own_v0_1 p0 p1) (FP.i2d p3)) bk129_2 kk129_3 (own_v0_0 p0) (own_upd (own_cst (4606281698874543309 : UInt64)) (own_v0_1 p0 p1) (FP.l2d q4)) Tk178.heap n0 (Nat.le_trans Z0 sz203) F206 Qk178_0 F207 Qk178_1 (c137_in10_2 hs1) (c137_in10_2 hs1)) hZ (own_W hw 29 rfl) (own_W hw 3 rfl) (by decide) (by decide)) qk204a qk204c (g := (mkF m 144 #[.val (.int p0), .val (.int p1), .val (.int p2), .val (.int p3), .val (.long q4), .second, .val (.int p5), .val (.int (own_v0_0 p0)), .val (.int (own_v0_1 p0 p1)), .val (.int (own_v0_2 p0 p2)), .val (.int 1), .val (.double (FP.i2d p3)), .second, .val (.double (FP.l2d q4)), .second, .val (.ref bn127), .val (.ref bk131_0), .val (.ref bn150), .unset, .unset, .unset, .unset, .unset, .unset, .unset, .unset, .unset, .unset, .unset] [(.int (own_v0_1 p0 p1)), (.ref bn127)])) rfl (by rw [hml]; rfl) (Steps.refl _) (argsL := [(.int (own_v0_1 p0 p1))]) (rest := []) (lenOf own_pd2 rfl) rfl (by show 2 * 0 + _ ≤ _; exact Nat.le_of_eq rfl) (hb hby at_144) (fun _ _ => ⟨rfl, rfl, (by decide : 11 + 3 ≤ _), (by decide : 44 + 4 ≤ _)⟩)
    dsimp only [Pt.U, Pt.locs, Pt.cells, Pt.slots] at Xk204 lk204 yk204 zk204 stk204 hQk204
    replace lk204 := lk204.symm; replace yk204 := yk204.symm; replace zk204 := zk204.symm; subst lk204 yk204 zk204
    obtain ⟨bk204_0, kk204_1, bk204_2, kk204_3, bk204_4, kk204_5, rfl, Nk204q, Kk204, lebk204_0, lebk204_2, lebk204_4, nek204_0, nek204_1, nek204_2, Qk204_0, Qk204_1, Qk204_2, Qk204_3, Qk204_4, Qk204_5⟩ := hQk204
    have g_bk204_0 : n0 ≤ bk204_0 := Nat.le_trans (Nat.le_trans Z0 sz203) lebk204_0
    have sz_bk204_0 : h0.size ≤ bk204_0 := Nat.le_trans sz203 lebk204_0
    have g_bk204_2 : n0 ≤ bk204_2 := Nat.le_trans (Nat.le_trans Z0 sz203) lebk204_2
    have sz_bk204_2 : h0.size ≤ bk204_2 := Nat.le_trans sz203 lebk204_2
    have g_bk204_4 : n0 ≤ bk204_4 := Nat.le_trans (Nat.le_trans Z0 sz203) lebk204_4
    have sz_bk204_4 : h0.size ≤ bk204_4 := Nat.le_trans sz203 lebk204_4
    have sz209 : h0.size ≤ Tk204.heap.size := Nat.le_trans sz203 Kk204.1
    have Nk204 := Fr.app Nk178 Nk204q
    obtain ⟨_, _, ⟨Tk210, Lk210, kk210, nk210⟩, -, Xk210, ⟨Lck210, hQk210, lk210, yk210, zk210⟩, stk210⟩ := Jvm.LawKit.callS Xk204 hx (y := (⟨"com/example/evoluta/evoluta/algorithms/de/SelfAdaptationParametersPinLaw", "is", "([[DDD)Z"⟩ : MethodName)) hown (mvT hZ (own_W hw 35 rfl)) (mvT hZ (own_W hw 36 rfl)) (mvT hZ (own_W hw 37 rfl)) (mvT hZ (own_W hw 38 rfl)) (by decide) (backOf (W := 0) (own_rm5 l Z a0 hw [] bk204_0 (FP.i2d p3) (FP.l2d q4) kk204_1 bk204_2 bk204_4 kk204_3 (own_v4_0 (own_v0_1 p0 p1) (own_upd (own_cst (4602678819172646912 : UInt64)) (own_v0_1 p0 p1) (FP.i2d p3))) kk204_5 (own_v4_1 (own_v0_1 p0 p1) (own_upd (own_cst (4606281698874543309 : UInt64)) (own_v0_1 p0 p1) (FP.l2d q4))) Tk204.heap n0 (Nat.le_trans Z0 sz209) Qk204_1 Qk204_3 Qk204_5 (c155_hc51_2 hs1) (c155_hc61_2 hs1)) hZ (own_W hw 38 rfl) (own_W hw 37 rfl) (by decide) (by decide)) (g := (mkF m 155 #[.val (.int p0), .val (.int p1), .val (.int p2), .val (.int p3), .val (.long q4), .second, .val (.int p5), .val (.int (own_v0_0 p0)), .val (.int (own_v0_1 p0 p1)), .val (.int (own_v0_2 p0 p2)), .val (.int 1), .val (.double (FP.i2d p3)), .second, .val (.double (FP.l2d q4)), .second, .val (.ref bn127), .val (.ref bk131_0), .val (.ref bn150), .val (.ref bk204_0), .unset, .unset, .unset, .unset, .unset, .unset, .unset, .unset, .unset, .unset] [(.double (FP.l2d q4)), (.double (FP.i2d p3)), (.ref bk204_0)])) rfl (by rw [hml]; rfl) (argsL := [(.ref bk204_0), (.double (FP.i2d p3)), (.double (FP.l2d q4))]) (rest := []) (lenOf own_pd3 rfl) rfl (by show 2 * 0 + _ ≤ _; exact Nat.le_of_eq rfl) (hb hby at_155) (fun _ _ => ⟨rfl, rfl, (by decide : 14 + 0 ≤ _), (by decide : 48 + 0 ≤ _)⟩)
    dsimp only [Pt.U, Pt.locs, Pt.cells, Pt.slots] at Xk210 lk210 yk210 zk210 stk210 hQk210
    replace lk210 := lk210.symm; replace yk210 := yk210.symm; replace zk210 := zk210.symm; subst lk210 yk210 zk210
    obtain ⟨rfl, Nk210q, ek210⟩ := hQk210
    have Nk210 := Fr.app Nk204 Nk210q
    obtain ⟨clo211, Aro211, qo211, So211, No211, Ho211, Go211⟩ := id Qk204_1
    have hi212 := inb_of (j := (0 : Int32)) So211 ⟨by decide, by decide⟩
    have ha213 : _ = some (Value.ref bk204_2) := Ho211.at hi212 rfl
    obtain ⟨clo214, Aro214, qo214, So214, No214, Ho214, Go214⟩ := id Qk204_3
    have hi215 := inb_of (j := (0 : Int32)) So214 ⟨by decide, by decide⟩
    obtain ⟨To216, ho216, Xo216, eo216, Wo216, sto216⟩ := stD Xk210 hx hZ ek210 Aro214 (j := (0 : Int32)) hi215 (g := (mkF m 171 #[.val (.int p0), .val (.int p1), .val (.int p2), .val (.int p3), .val (.long q4), .second, .val (.int p5), .val (.int (own_v0_0 p0)), .val (.int (own_v0_1 p0 p1)), .val (.int (own_v0_2 p0 p2)), .val (.int 1), .val (.double (FP.i2d p3)), .second, .val (.double (FP.l2d q4)), .second, .val (.ref bn127), .val (.ref bk131_0), .val (.ref bn150), .val (.ref bk204_0), .unset, .unset, .unset, .unset, .unset, .unset, .unset, .unset, .unset, .unset] [(.double 4598175219545276416), (.int 0), (.ref bk204_2)])) rfl rfl (hb hby at_171)
    have Vwo216 : Arv Z ho216 bk204_2 kk204_3 .double (1 : Int32) [(.double 4598175219545276416)] (.double 0) := Arv.set Aro214 qo214 So214 No214 Ho214 Go214 rfl Wo216 0 rfl (Nat.le_of_ble_eq_true rfl)
    have sz217 : h0.size ≤ ho216.size := Nat.le_trans sz209 (Nat.le_of_eq Wo216.size.symm)
    have Nfo216 := Fr.snoc Xo216 Nk210 g_bk204_2
    have F218 := (Qk204_1.other Wo216 nek204_0)
    obtain ⟨clo219, Aro219, qo219, So219, No219, Ho219, Go219⟩ := id F218
    have hi220 := inb_of (j := (1 : Int32)) So219 ⟨by decide, by decide⟩
    have ha221 : _ = some (Value.ref bk204_4) := Ho219.at hi220 rfl
    have F222 := (Qk204_5.other Wo216 (Ne.symm nek204_2))
    obtain ⟨clo223, Aro223, qo223, So223, No223, Ho223, Go223⟩ := id F222
    have hi224 := inb_of (j := (0 : Int32)) So223 ⟨by decide, by decide⟩
    obtain ⟨To225, ho225, Xo225, eo225, Wo225, sto225⟩ := stD Xo216 hx hZ eo216 Aro223 (j := (0 : Int32)) hi224 (g := (mkF m 180 #[.val (.int p0), .val (.int p1), .val (.int p2), .val (.int p3), .val (.long q4), .second, .val (.int p5), .val (.int (own_v0_0 p0)), .val (.int (own_v0_1 p0 p1)), .val (.int (own_v0_2 p0 p2)), .val (.int 1), .val (.double (FP.i2d p3)), .second, .val (.double (FP.l2d q4)), .second, .val (.ref bn127), .val (.ref bk131_0), .val (.ref bn150), .val (.ref bk204_0), .unset, .unset, .unset, .unset, .unset, .unset, .unset, .unset, .unset, .unset] [(.double 4598175219545276416), (.int 0), (.ref bk204_4)])) rfl rfl (hb hby at_180)
    have Vwo225 : Arv Z ho225 bk204_4 kk204_5 .double (1 : Int32) [(.double 4598175219545276416)] (.double 0) := Arv.set Aro223 qo223 So223 No223 Ho223 Go223 rfl Wo225 0 rfl (Nat.le_of_ble_eq_true rfl)
    have sz226 : h0.size ≤ ho225.size := Nat.le_trans sz217 (Nat.le_of_eq Wo225.size.symm)
    have Nfo225 := Fr.snoc Xo225 Nfo216 g_bk204_4
    have ne228 : bk204_2 ≠ bn127 := (Ne.symm (Nat.ne_of_lt (Nat.lt_of_lt_of_le F208.lt lebk204_2)))
    have ne229 : bk204_4 ≠ bn127 := (Ne.symm (Nat.ne_of_lt (Nat.lt_of_lt_of_le F208.lt lebk204_4)))
    have F230 := (((F206.keep Kk204 nin0).other Wo216 (Or.inl (Ne.symm ne228))).other Wo225 (Or.inl (Ne.symm ne229)))
    have F231 := ((((((((((((((Qk129_3.keep Kk131 nin0).other Wo139 (Or.inl (Ne.symm ne185))).other Wo148 (Or.inl (Ne.symm ne186))).ext En150).ext En152).other Wo156 (Or.inl ne187)).other Wo162 (Or.inl ne188)).ext En165).other Wo169 (Or.inl ne189)).other Wo175 (Or.inl ne188)).keep Kk178 (ninS (Ne.symm ne179) (ninS (Ne.symm ne205) nin0))).keep Kk204 nin0).other Wo216 (Or.inl (Ne.symm ne228))).other Wo225 (Or.inl (Ne.symm ne229)))
    have ne232 : bk129_4 ≠ bk131_2 := (Nat.ne_of_lt (Nat.lt_of_lt_of_le Qk129_7.lt lebk131_2))
    have ne233 : bk129_4 ≠ bk131_4 := (Nat.ne_of_lt (Nat.lt_of_lt_of_le Qk129_7.lt lebk131_4))
    have ne234 : bk129_4 ≠ bn152 := (Nat.ne_of_lt (Nat.lt_of_lt_of_le ((((Qk129_7.keep Kk131 nin0).other Wo139 ne232).other Wo148 ne233).ext En150).lt (Nat.le_of_eq gn152.symm)))
    have ne235 : bk129_4 ≠ bn150 := (Nat.ne_of_lt (Nat.lt_of_lt_of_le (((Qk129_7.keep Kk131 nin0).other Wo139 ne232).other Wo148 ne233).lt (Nat.le_of_eq gn150.symm)))
    have ne236 : bk129_4 ≠ bn165 := (Nat.ne_of_lt (Nat.lt_of_lt_of_le (((((((Qk129_7.keep Kk131 nin0).other Wo139 ne232).other Wo148 ne233).ext En150).ext En152).other Wo156 ne234).other Wo162 ne235).lt (Nat.le_of_eq gn165.symm)))
    have ne237 : bk129_4 ≠ bk204_2 := (Nat.ne_of_lt (Nat.lt_of_lt_of_le (((((((((((Qk129_7.keep Kk131 nin0).other Wo139 ne232).other Wo148 ne233).ext En150).ext En152).other Wo156 ne234).other Wo162 ne235).ext En165).other Wo169 ne236).other Wo175 ne235).keep Kk178 (ninS (Ne.symm nek129_1) (ninS (Ne.symm nek129_3) nin0))).lt lebk204_2))
    have ne238 : bk129_4 ≠ bk204_4 := (Nat.ne_of_lt (Nat.lt_of_lt_of_le (((((((((((Qk129_7.keep Kk131 nin0).other Wo139 ne232).other Wo148 ne233).ext En150).ext En152).other Wo156 ne234).other Wo162 ne235).ext En165).other Wo169 ne236).other Wo175 ne235).keep Kk178 (ninS (Ne.symm nek129_1) (ninS (Ne.symm nek129_3) nin0))).lt lebk204_4))
    have F239 := ((((((((((((((Qk129_7.keep Kk131 nin0).other Wo139 ne232).other Wo148 ne233).ext En150).ext En152).other Wo156 ne234).other Wo162 ne235).ext En165).other Wo169 ne236).other Wo175 ne235).keep Kk178 (ninS (Ne.symm nek129_1) (ninS (Ne.symm nek129_3) nin0))).keep Kk204 nin0).other Wo216 ne237).other Wo225 ne238)
    have ne240 : bk129_0 ≠ bk204_2 := (Nat.ne_of_lt (Nat.lt_of_lt_of_le Qk178_0.lt lebk204_2))
    have ne241 : bk129_0 ≠ bk204_4 := (Nat.ne_of_lt (Nat.lt_of_lt_of_le Qk178_0.lt lebk204_4))
    have F242 := (((Qk178_0.keep Kk204 nin0).other Wo216 ne240).other Wo225 ne241)
    have F243 := (((F207.keep Kk204 nin0).other Wo216 (Or.inl (Ne.symm ne228))).other Wo225 (Or.inl (Ne.symm ne229)))
    have F244 := ((((((((((((((Qk129_4.keep Kk131 nin0).other Wo139 (Or.inl (Ne.symm ne185))).other Wo148 (Or.inl (Ne.symm ne186))).ext En150).ext En152).other Wo156 (Or.inl ne187)).other Wo162 (Or.inl ne188)).ext En165).other Wo169 (Or.inl ne189)).other Wo175 (Or.inl ne188)).keep Kk178 (ninS (Ne.symm ne179) (ninS (Ne.symm ne205) nin0))).keep Kk204 nin0).other Wo216 (Or.inl (Ne.symm ne228))).other Wo225 (Or.inl (Ne.symm ne229)))
    have ne245 : bk129_6 ≠ bk131_2 := (Nat.ne_of_lt (Nat.lt_of_lt_of_le Qk129_8.lt lebk131_2))
    have ne246 : bk129_6 ≠ bk131_4 := (Nat.ne_of_lt (Nat.lt_of_lt_of_le Qk129_8.lt lebk131_4))
    have ne247 : bk129_6 ≠ bn152 := (Nat.ne_of_lt (Nat.lt_of_lt_of_le ((((Qk129_8.keep Kk131 nin0).other Wo139 ne245).other Wo148 ne246).ext En150).lt (Nat.le_of_eq gn152.symm)))
    have ne248 : bk129_6 ≠ bn150 := (Nat.ne_of_lt (Nat.lt_of_lt_of_le (((Qk129_8.keep Kk131 nin0).other Wo139 ne245).other Wo148 ne246).lt (Nat.le_of_eq gn150.symm)))
    have ne249 : bk129_6 ≠ bn165 := (Nat.ne_of_lt (Nat.lt_of_lt_of_le (((((((Qk129_8.keep Kk131 nin0).other Wo139 ne245).other Wo148 ne246).ext En150).ext En152).other Wo156 ne247).other Wo162 ne248).lt (Nat.le_of_eq gn165.symm)))
    have ne250 : bk129_6 ≠ bk204_2 := (Nat.ne_of_lt (Nat.lt_of_lt_of_le (((((((((((Qk129_8.keep Kk131 nin0).other Wo139 ne245).other Wo148 ne246).ext En150).ext En152).other Wo156 ne247).other Wo162 ne248).ext En165).other Wo169 ne249).other Wo175 ne248).keep Kk178 (ninS (Ne.symm nek129_2) (ninS (Ne.symm nek129_4) nin0))).lt lebk204_2))
    have ne251 : bk129_6 ≠ bk204_4 := (Nat.ne_of_lt (Nat.lt_of_lt_of_le (((((((((((Qk129_8.keep Kk131 nin0).other Wo139 ne245).other Wo148 ne246).ext En150).ext En152).other Wo156 ne247).other Wo162 ne248).ext En165).other Wo169 ne249).other Wo175 ne248).keep Kk178 (ninS (Ne.symm nek129_2) (ninS (Ne.symm nek129_4) nin0))).lt lebk204_4))
    have F252 := ((((((((((((((Qk129_8.keep Kk131 nin0).other Wo139 ne245).other Wo148 ne246).ext En150).ext En152).other Wo156 ne247).other Wo162 ne248).ext En165).other Wo169 ne249).other Wo175 ne248).keep Kk178 (ninS (Ne.symm nek129_2) (ninS (Ne.symm nek129_4) nin0))).keep Kk204 nin0).other Wo216 ne250).other Wo225 ne251)
    have ne253 : bk129_2 ≠ bk204_2 := (Nat.ne_of_lt (Nat.lt_of_lt_of_le Qk178_1.lt lebk204_2))
    have ne254 : bk129_2 ≠ bk204_4 := (Nat.ne_of_lt (Nat.lt_of_lt_of_le Qk178_1.lt lebk204_4))
    have F255 := (((Qk178_1.keep Kk204 nin0).other Wo216 ne253).other Wo225 ne254)
    have F256 := (((F208.keep Kk204).wr Wo216).wr Wo225)
    obtain ⟨cqk227, kqk227, qk227a, qk227b, qk227c⟩ := isOf hZ eo225 F256
    obtain ⟨_, _, ⟨Tk227, Lk227, kk227, nk227⟩, -, Xk227, ⟨Lck227, hQk227, lk227, yk227, zk227⟩, stk227⟩ := Xo225.virtualBack hx (y := (⟨"com/example/evoluta/evoluta/algorithms/de/Jde$SelfAdaptation", "trialReplaced", "(I)V"⟩ : MethodName)) (z := (⟨"com/example/evoluta/evoluta/algorithms/de/Jde$SelfAdaptation", "trialReplaced", "(I)V"⟩ : MethodName)) hown (mvT hZ (own_W hw 46 rfl)) (mvT hZ (own_W hw 47 rfl)) (notFace_of_selects (args := #[]) (mvT hZ (own_W hw 49 rfl))) (mvT hZ (own_W hw 49 rfl)) (mvT hZ (own_W hw 48 rfl)) (by decide) (backOf (W := 0) (own_rm7 l Z a0 hw [] bn127 (own_v0_2 p0 p2) bk129_0 bk129_4 kk129_5 (own_v0_0 p0) (own_cst 0) kk129_1 (own_v0_0 p0) (own_upd (own_cst (4602678819172646912 : UInt64)) (own_v0_1 p0 p1) (FP.i2d p3)) bk129_2 bk129_6 kk129_7 (own_v0_0 p0) (own_cst 0) kk129_3 (own_v0_0 p0) (own_upd (own_cst (4606281698874543309 : UInt64)) (own_v0_1 p0 p1) (FP.l2d q4)) ho225 n0 (Nat.le_trans Z0 sz226) F230 F231 F239 F242 g_bk129_0 F243 F244 F252 F255 g_bk129_2 (c64_in16_2 hs1) (c64_in16_2 hs1) (Ne.symm ne179) nek129_2 (c64_in16_2 hs1) (Ne.symm nek129_0) (c64_in16_2 hs1)) hZ (own_W hw 50 rfl) (own_W hw 3 rfl) (by decide) (by decide)) qk227a qk227c (g := (mkF m 190 #[.val (.int p0), .val (.int p1), .val (.int p2), .val (.int p3), .val (.long q4), .second, .val (.int p5), .val (.int (own_v0_0 p0)), .val (.int (own_v0_1 p0 p1)), .val (.int (own_v0_2 p0 p2)), .val (.int 1), .val (.double (FP.i2d p3)), .second, .val (.double (FP.l2d q4)), .second, .val (.ref bn127), .val (.ref bk131_0), .val (.ref bn150), .val (.ref bk204_0), .unset, .unset, .unset, .unset, .unset, .unset, .unset, .unset, .unset, .unset] [(.int (own_v0_2 p0 p2)), (.ref bn127)])) rfl (by rw [hml]; rfl) (Steps.refl _) (argsL := [(.int (own_v0_2 p0 p2))]) (rest := []) (lenOf own_pd1 rfl) rfl (by show 2 * 0 + _ ≤ _; exact Nat.le_of_eq rfl) (hb hby at_190) (fun _ _ => ⟨rfl, eo225, (by decide : 14 + 0 ≤ _), (by decide : 48 + 0 ≤ _)⟩)
    dsimp only [Pt.U, Pt.locs, Pt.cells, Pt.slots] at Xk227 lk227 yk227 zk227 stk227 hQk227
    replace lk227 := lk227.symm; replace yk227 := yk227.symm; replace zk227 := zk227.symm; subst lk227 yk227 zk227
    obtain ⟨rfl, Nk227q, Kk227, Qk227_0, Qk227_1⟩ := hQk227
    have sz257 : h0.size ≤ Tk227.heap.size := Nat.le_trans sz226 Kk227.1
    have Nk227 := Fr.app Nfo225 Nk227q
    obtain ⟨Tj258, lj258, Xj258, Nj258, ej258, stj258⟩ : ∃ (T' : State) (l' : List Loc), Stand p l e room_1 s m #[(.int p0), (.int p1), (.int p2), (.int p3), (.long q4), (.int p5)] below meth c T' l' 14 48 ∧ Fr n0 l' ∧ T'.heap = Tk227.heap ∧ ∀ target, Steps p.tables e below (T'.setTop (mkF m 211 #[.val (.int p0), .val (.int p1), .val (.int p2), .val (.int p3), .val (.long q4), .second, .val (.int p5), .val (.int (own_v0_0 p0)), .val (.int (own_v0_1 p0 p1)), .val (.int (own_v0_2 p0 p2)), .val (.int 1), .val (.double (FP.i2d p3)), .second, .val (.double (FP.l2d q4)), .second, .val (.ref bn127), .val (.ref bk131_0), .val (.ref bn150), .val (.ref bk204_0), .unset, .unset, .unset, .unset, .unset, .unset, .unset, .unset, .unset, .unset] [(.double (own_j0_5 p0 p1 p2 p3))])) target → Steps p.tables e below (Tk227.setTop (mkF m 202 #[.val (.int p0), .val (.int p1), .val (.int p2), .val (.int p3), .val (.long q4), .second, .val (.int p5), .val (.int (own_v0_0 p0)), .val (.int (own_v0_1 p0 p1)), .val (.int (own_v0_2 p0 p2)), .val (.int 1), .val (.double (FP.i2d p3)), .second, .val (.double (FP.l2d q4)), .second, .val (.ref bn127), .val (.ref bk131_0), .val (.ref bn150), .val (.ref bk204_0), .unset, .unset, .unset, .unset, .unset, .unset, .unset, .unset, .unset, .unset] [(.int (own_v0_1 p0 p1)), (.int (own_v0_2 p0 p2))])) target := by
      by_cases hj258 : (own_v0_2 p0 p2) = (own_v0_1 p0 p1)
      · refine ⟨_, _, Xk227, Nk227, rfl, fun target kt => ?_⟩
        rw [(show (own_j0_5 p0 p1 p2 p3) = (0 : UInt64) from if_pos hj258)] at kt
        show Steps p.tables e below (Tk227.setTop (mkF m 202 #[.val (.int p0), .val (.int p1), .val (.int p2), .val (.int p3), .val (.long q4), .second, .val (.int p5), .val (.int (own_v0_0 p0)), .val (.int (own_v0_1 p0 p1)), .val (.int (own_v0_2 p0 p2)), .val (.int 1), .val (.double (FP.i2d p3)), .second, .val (.double (FP.l2d q4)), .second, .val (.ref bn127), .val (.ref bk131_0), .val (.ref bn150), .val (.ref bk204_0), .unset, .unset, .unset, .unset, .unset, .unset, .unset, .unset, .unset, .unset] [(.int (own_v0_1 p0 p1)), (.int (own_v0_2 p0 p2))])) _
        refine XS.icmpNo Xk227.here hx rfl (hb hby at_202) rfl (XT.ii_ne_f hj258) ?_
        refine XS.dconst0 Xk227.here hx rfl (hb hby at_205) (v := (0 : UInt64)) (by decide +kernel) ?_
        refine XS.goto Xk227.here hx rfl (pc0 := 206) (pc' := 211) rfl (hb hby at_206) (by decide) (by decide) ?_
        exact kt
      · refine ⟨_, _, Xk227, Nk227, rfl, fun target kt => ?_⟩
        rw [(show (own_j0_5 p0 p1 p2 p3) = (FP.i2d p3) from if_neg hj258)] at kt
        show Steps p.tables e below (Tk227.setTop (mkF m 202 #[.val (.int p0), .val (.int p1), .val (.int p2), .val (.int p3), .val (.long q4), .second, .val (.int p5), .val (.int (own_v0_0 p0)), .val (.int (own_v0_1 p0 p1)), .val (.int (own_v0_2 p0 p2)), .val (.int 1), .val (.double (FP.i2d p3)), .second, .val (.double (FP.l2d q4)), .second, .val (.ref bn127), .val (.ref bk131_0), .val (.ref bn150), .val (.ref bk204_0), .unset, .unset, .unset, .unset, .unset, .unset, .unset, .unset, .unset, .unset] [(.int (own_v0_1 p0 p1)), (.int (own_v0_2 p0 p2))])) _
        refine XS.icmpYes Xk227.here hx rfl (pc0 := 202) (pc' := 209) rfl (hb hby at_202) rfl (XT.ii_ne_t hj258) (by decide) (by decide) ?_
        refine XS.dload Xk227.here hx rfl (hb hby at_209) rfl ?_
        exact kt
    obtain ⟨Tj259, lj259, Xj259, Nj259, ej259, stj259⟩ : ∃ (T' : State) (l' : List Loc), Stand p l e room_1 s m #[(.int p0), (.int p1), (.int p2), (.int p3), (.long q4), (.int p5)] below meth c T' l' 14 48 ∧ Fr n0 l' ∧ T'.heap = Tk227.heap ∧ ∀ target, Steps p.tables e below (T'.setTop (mkF m 231 #[.val (.int p0), .val (.int p1), .val (.int p2), .val (.int p3), .val (.long q4), .second, .val (.int p5), .val (.int (own_v0_0 p0)), .val (.int (own_v0_1 p0 p1)), .val (.int (own_v0_2 p0 p2)), .val (.int 1), .val (.double (FP.i2d p3)), .second, .val (.double (FP.l2d q4)), .second, .val (.ref bn127), .val (.ref bk131_0), .val (.ref bn150), .val (.ref bk204_0), .val (.double (own_j0_5 p0 p1 p2 p3)), .second, .unset, .unset, .unset, .unset, .unset, .unset, .unset, .unset] [(.double (own_j0_6 p0 p1 p2 q4))])) target → Steps p.tables e below (Tj258.setTop (mkF m 222 #[.val (.int p0), .val (.int p1), .val (.int p2), .val (.int p3), .val (.long q4), .second, .val (.int p5), .val (.int (own_v0_0 p0)), .val (.int (own_v0_1 p0 p1)), .val (.int (own_v0_2 p0 p2)), .val (.int 1), .val (.double (FP.i2d p3)), .second, .val (.double (FP.l2d q4)), .second, .val (.ref bn127), .val (.ref bk131_0), .val (.ref bn150), .val (.ref bk204_0), .val (.double (own_j0_5 p0 p1 p2 p3)), .second, .unset, .unset, .unset, .unset, .unset, .unset, .unset, .unset] [(.int (own_v0_1 p0 p1)), (.int (own_v0_2 p0 p2))])) target := by
      by_cases hj259 : (own_v0_2 p0 p2) = (own_v0_1 p0 p1)
      · refine ⟨_, _, Xj258, Nj258, ej258, fun target kt => ?_⟩
        rw [(show (own_j0_6 p0 p1 p2 q4) = (0 : UInt64) from if_pos hj259)] at kt
        show Steps p.tables e below (Tj258.setTop (mkF m 222 #[.val (.int p0), .val (.int p1), .val (.int p2), .val (.int p3), .val (.long q4), .second, .val (.int p5), .val (.int (own_v0_0 p0)), .val (.int (own_v0_1 p0 p1)), .val (.int (own_v0_2 p0 p2)), .val (.int 1), .val (.double (FP.i2d p3)), .second, .val (.double (FP.l2d q4)), .second, .val (.ref bn127), .val (.ref bk131_0), .val (.ref bn150), .val (.ref bk204_0), .val (.double (own_j0_5 p0 p1 p2 p3)), .second, .unset, .unset, .unset, .unset, .unset, .unset, .unset, .unset] [(.int (own_v0_1 p0 p1)), (.int (own_v0_2 p0 p2))])) _
        refine XS.icmpNo Xj258.here hx rfl (hb hby at_222) rfl (XT.ii_ne_f hj259) ?_
        refine XS.dconst0 Xj258.here hx rfl (hb hby at_225) (v := (0 : UInt64)) (by decide +kernel) ?_
        refine XS.goto Xj258.here hx rfl (pc0 := 226) (pc' := 231) rfl (hb hby at_226) (by decide) (by decide) ?_
        exact kt
      · refine ⟨_, _, Xj258, Nj258, ej258, fun target kt => ?_⟩
        rw [(show (own_j0_6 p0 p1 p2 q4) = (FP.l2d q4) from if_neg hj259)] at kt
        show Steps p.tables e below (Tj258.setTop (mkF m 222 #[.val (.int p0), .val (.int p1), .val (.int p2), .val (.int p3), .val (.long q4), .second, .val (.int p5), .val (.int (own_v0_0 p0)), .val (.int (own_v0_1 p0 p1)), .val (.int (own_v0_2 p0 p2)), .val (.int 1), .val (.double (FP.i2d p3)), .second, .val (.double (FP.l2d q4)), .second, .val (.ref bn127), .val (.ref bk131_0), .val (.ref bn150), .val (.ref bk204_0), .val (.double (own_j0_5 p0 p1 p2 p3)), .second, .unset, .unset, .unset, .unset, .unset, .unset, .unset, .unset] [(.int (own_v0_1 p0 p1)), (.int (own_v0_2 p0 p2))])) _
        refine XS.icmpYes Xj258.here hx rfl (pc0 := 222) (pc' := 229) rfl (hb hby at_222) rfl (XT.ii_ne_t hj259) (by decide) (by decide) ?_
        refine XS.dload Xj258.here hx rfl (hb hby at_229) rfl ?_
        exact kt
    have F261 := (F230.keep Kk227 (ninS (Ne.symm ne179) (ninS (Ne.symm ne205) nin0)))
    have F262 := (F243.keep Kk227 (ninS (Ne.symm ne179) (ninS (Ne.symm ne205) nin0)))
    have F263 := (F256.keep Kk227)
    obtain ⟨cqk260, kqk260, qk260a, qk260b, qk260c⟩ := isOf hZ ej259 F263
    obtain ⟨_, _, ⟨Tk260, Lk260, kk260, nk260⟩, -, Xk260, ⟨Lck260, hQk260, lk260, yk260, zk260⟩, stk260⟩ := Xj259.virtualBack hx (y := (⟨"com/example/evoluta/evoluta/algorithms/de/Jde$SelfAdaptation", "parameters", "(I)[[D"⟩ : MethodName)) (z := (⟨"com/example/evoluta/evoluta/algorithms/de/Jde$SelfAdaptation", "parameters", "(I)[[D"⟩ : MethodName)) hown (mvT hZ (own_W hw 25 rfl)) (mvT hZ (own_W hw 26 rfl)) (notFace_of_selects (args := #[]) (mvT hZ (own_W hw 28 rfl))) (mvT hZ (own_W hw 28 rfl)) (mvT hZ (own_W hw 27 rfl)) (by decide) (backOf (W := 0) (own_rm4 l Z a0 hw [] bn127 (own_v0_1 p0 p1) bk129_0 kk129_1 (own_v0_0 p0) (own_upd (own_upd (own_cst (4602678819172646912 : UInt64)) (own_v0_1 p0 p1) (FP.i2d p3)) (own_v0_2 p0 p2) (own_v7_0 (own_v0_2 p0 p2) (own_cst 0))) bk129_2 kk129_3 (own_v0_0 p0) (own_upd (own_upd (own_cst (4606281698874543309 : UInt64)) (own_v0_1 p0 p1) (FP.l2d q4)) (own_v0_2 p0 p2) (own_v7_1 (own_v0_2 p0 p2) (own_cst 0))) Tk227.heap n0 (Nat.le_trans Z0 sz257) F261 Qk227_0 F262 Qk227_1 (c137_in10_2 hs1) (c137_in10_2 hs1)) hZ (own_W hw 29 rfl) (own_W hw 3 rfl) (by decide) (by decide)) qk260a qk260c (g := (mkF m 237 #[.val (.int p0), .val (.int p1), .val (.int p2), .val (.int p3), .val (.long q4), .second, .val (.int p5), .val (.int (own_v0_0 p0)), .val (.int (own_v0_1 p0 p1)), .val (.int (own_v0_2 p0 p2)), .val (.int 1), .val (.double (FP.i2d p3)), .second, .val (.double (FP.l2d q4)), .second, .val (.ref bn127), .val (.ref bk131_0), .val (.ref bn150), .val (.ref bk204_0), .val (.double (own_j0_5 p0 p1 p2 p3)), .second, .val (.double (own_j0_6 p0 p1 p2 q4)), .second, .unset, .unset, .unset, .unset, .unset, .unset] [(.int (own_v0_1 p0 p1)), (.ref bn127)])) rfl (by rw [hml]; rfl) (Steps.refl _) (argsL := [(.int (own_v0_1 p0 p1))]) (rest := []) (lenOf own_pd2 rfl) rfl (by show 2 * 0 + _ ≤ _; exact Nat.le_of_eq rfl) (hb hby at_237) (fun _ _ => ⟨rfl, ej259, (by decide : 14 + 3 ≤ _), (by decide : 48 + 4 ≤ _)⟩)
    dsimp only [Pt.U, Pt.locs, Pt.cells, Pt.slots] at Xk260 lk260 yk260 zk260 stk260 hQk260
    replace lk260 := lk260.symm; replace yk260 := yk260.symm; replace zk260 := zk260.symm; subst lk260 yk260 zk260
    obtain ⟨bk260_0, kk260_1, bk260_2, kk260_3, bk260_4, kk260_5, rfl, Nk260q, Kk260, lebk260_0, lebk260_2, lebk260_4, nek260_0, nek260_1, nek260_2, Qk260_0, Qk260_1, Qk260_2, Qk260_3, Qk260_4, Qk260_5⟩ := hQk260
    have g_bk260_0 : n0 ≤ bk260_0 := Nat.le_trans (Nat.le_trans Z0 sz257) lebk260_0
    have sz_bk260_0 : h0.size ≤ bk260_0 := Nat.le_trans sz257 lebk260_0
    have g_bk260_2 : n0 ≤ bk260_2 := Nat.le_trans (Nat.le_trans Z0 sz257) lebk260_2
    have sz_bk260_2 : h0.size ≤ bk260_2 := Nat.le_trans sz257 lebk260_2
    have g_bk260_4 : n0 ≤ bk260_4 := Nat.le_trans (Nat.le_trans Z0 sz257) lebk260_4
    have sz_bk260_4 : h0.size ≤ bk260_4 := Nat.le_trans sz257 lebk260_4
    have sz264 : h0.size ≤ Tk260.heap.size := Nat.le_trans sz257 Kk260.1
    have Nk260 := Fr.app Nj259 Nk260q
    obtain ⟨_, _, ⟨Tk265, Lk265, kk265, nk265⟩, -, Xk265, ⟨Lck265, hQk265, lk265, yk265, zk265⟩, stk265⟩ := Jvm.LawKit.callS Xk260 hx (y := (⟨"com/example/evoluta/evoluta/algorithms/de/SelfAdaptationParametersPinLaw", "is", "([[DDD)Z"⟩ : MethodName)) hown (mvT hZ (own_W hw 35 rfl)) (mvT hZ (own_W hw 36 rfl)) (mvT hZ (own_W hw 37 rfl)) (mvT hZ (own_W hw 38 rfl)) (by decide) (backOf (W := 0) (own_rm5 l Z a0 hw [] bk260_0 (own_j0_5 p0 p1 p2 p3) (own_j0_6 p0 p1 p2 q4) kk260_1 bk260_2 bk260_4 kk260_3 (own_v4_0 (own_v0_1 p0 p1) (own_upd (own_upd (own_cst (4602678819172646912 : UInt64)) (own_v0_1 p0 p1) (FP.i2d p3)) (own_v0_2 p0 p2) (own_v7_0 (own_v0_2 p0 p2) (own_cst 0)))) kk260_5 (own_v4_1 (own_v0_1 p0 p1) (own_upd (own_upd (own_cst (4606281698874543309 : UInt64)) (own_v0_1 p0 p1) (FP.l2d q4)) (own_v0_2 p0 p2) (own_v7_1 (own_v0_2 p0 p2) (own_cst 0)))) Tk260.heap n0 (Nat.le_trans Z0 sz264) Qk260_1 Qk260_3 Qk260_5 (c248_hc51 hs1) (c248_hc61 hs1)) hZ (own_W hw 38 rfl) (own_W hw 37 rfl) (by decide) (by decide)) (g := (mkF m 248 #[.val (.int p0), .val (.int p1), .val (.int p2), .val (.int p3), .val (.long q4), .second, .val (.int p5), .val (.int (own_v0_0 p0)), .val (.int (own_v0_1 p0 p1)), .val (.int (own_v0_2 p0 p2)), .val (.int 1), .val (.double (FP.i2d p3)), .second, .val (.double (FP.l2d q4)), .second, .val (.ref bn127), .val (.ref bk131_0), .val (.ref bn150), .val (.ref bk204_0), .val (.double (own_j0_5 p0 p1 p2 p3)), .second, .val (.double (own_j0_6 p0 p1 p2 q4)), .second, .val (.ref bk260_0), .unset, .unset, .unset, .unset, .unset] [(.double (own_j0_6 p0 p1 p2 q4)), (.double (own_j0_5 p0 p1 p2 p3)), (.ref bk260_0)])) rfl (by rw [hml]; rfl) (argsL := [(.ref bk260_0), (.double (own_j0_5 p0 p1 p2 p3)), (.double (own_j0_6 p0 p1 p2 q4))]) (rest := []) (lenOf own_pd3 rfl) rfl (by show 2 * 0 + _ ≤ _; exact Nat.le_of_eq rfl) (hb hby at_248) (fun _ _ => ⟨rfl, rfl, (by decide : 17 + 0 ≤ _), (by decide : 52 + 0 ≤ _)⟩)
    dsimp only [Pt.U, Pt.locs, Pt.cells, Pt.slots] at Xk265 lk265 yk265 zk265 stk265 hQk265
    replace lk265 := lk265.symm; replace yk265 := yk265.symm; replace zk265 := zk265.symm; subst lk265 yk265 zk265
    obtain ⟨rfl, Nk265q, ek265⟩ := hQk265
    have Nk265 := Fr.app Nk260 Nk265q
    have F267 := (F261.keep Kk260 nin0)
    have F268 := (Qk227_0.keep Kk260 nin0)
    have F269 := (F262.keep Kk260 nin0)
    have F270 := (Qk227_1.keep Kk260 nin0)
    have F271 := (F263.keep Kk260)
    obtain ⟨cqk266, kqk266, qk266a, qk266b, qk266c⟩ := isOf hZ ek265 F271
    obtain ⟨_, _, ⟨Tk266, Lk266, kk266, nk266⟩, -, Xk266, ⟨Lck266, hQk266, lk266, yk266, zk266⟩, stk266⟩ := Xk265.virtualBack hx (y := (⟨"com/example/evoluta/evoluta/algorithms/de/Jde$SelfAdaptation", "parameters", "(I)[[D"⟩ : MethodName)) (z := (⟨"com/example/evoluta/evoluta/algorithms/de/Jde$SelfAdaptation", "parameters", "(I)[[D"⟩ : MethodName)) hown (mvT hZ (own_W hw 25 rfl)) (mvT hZ (own_W hw 26 rfl)) (notFace_of_selects (args := #[]) (mvT hZ (own_W hw 28 rfl))) (mvT hZ (own_W hw 28 rfl)) (mvT hZ (own_W hw 27 rfl)) (by decide) (backOf (W := 0) (own_rm4 l Z a0 hw [] bn127 (own_v0_2 p0 p2) bk129_0 kk129_1 (own_v0_0 p0) (own_upd (own_upd (own_cst (4602678819172646912 : UInt64)) (own_v0_1 p0 p1) (FP.i2d p3)) (own_v0_2 p0 p2) (own_v7_0 (own_v0_2 p0 p2) (own_cst 0))) bk129_2 kk129_3 (own_v0_0 p0) (own_upd (own_upd (own_cst (4606281698874543309 : UInt64)) (own_v0_1 p0 p1) (FP.l2d q4)) (own_v0_2 p0 p2) (own_v7_1 (own_v0_2 p0 p2) (own_cst 0))) Tk260.heap n0 (Nat.le_trans Z0 sz264) F267 F268 F269 F270 (c64_in16_2 hs1) (c64_in16_2 hs1)) hZ (own_W hw 29 rfl) (own_W hw 3 rfl) (by decide) (by decide)) qk266a qk266c (g := (mkF m 302 #[.val (.int p0), .val (.int p1), .val (.int p2), .val (.int p3), .val (.long q4), .second, .val (.int p5), .val (.int (own_v0_0 p0)), .val (.int (own_v0_1 p0 p1)), .val (.int (own_v0_2 p0 p2)), .val (.int 1), .val (.double (FP.i2d p3)), .second, .val (.double (FP.l2d q4)), .second, .val (.ref bn127), .val (.ref bk131_0), .val (.ref bn150), .val (.ref bk204_0), .val (.double (own_j0_5 p0 p1 p2 p3)), .second, .val (.double (own_j0_6 p0 p1 p2 q4)), .second, .val (.ref bk260_0), .val (.double 0), .second, .val (.double 0), .second, .unset] [(.int (own_v0_2 p0 p2)), (.ref bn127)])) rfl (by rw [hml]; rfl) (Steps.refl _) (argsL := [(.int (own_v0_2 p0 p2))]) (rest := []) (lenOf own_pd2 rfl) rfl (by show 2 * 0 + _ ≤ _; exact Nat.le_of_eq rfl) (hb hby at_302) (fun _ _ => ⟨rfl, ek265, (by decide : 17 + 3 ≤ _), (by decide : 52 + 4 ≤ _)⟩)
    dsimp only [Pt.U, Pt.locs, Pt.cells, Pt.slots] at Xk266 lk266 yk266 zk266 stk266 hQk266
    replace lk266 := lk266.symm; replace yk266 := yk266.symm; replace zk266 := zk266.symm; subst lk266 yk266 zk266
    obtain ⟨bk266_0, kk266_1, bk266_2, kk266_3, bk266_4, kk266_5, rfl, Nk266q, Kk266, lebk266_0, lebk266_2, lebk266_4, nek266_0, nek266_1, nek266_2, Qk266_0, Qk266_1, Qk266_2, Qk266_3, Qk266_4, Qk266_5⟩ := hQk266
    have g_bk266_0 : n0 ≤ bk266_0 := Nat.le_trans (Nat.le_trans Z0 sz264) lebk266_0
    have sz_bk266_0 : h0.size ≤ bk266_0 := Nat.le_trans sz264 lebk266_0
    have g_bk266_2 : n0 ≤ bk266_2 := Nat.le_trans (Nat.le_trans Z0 sz264) lebk266_2
    have sz_bk266_2 : h0.size ≤ bk266_2 := Nat.le_trans sz264 lebk266_2
    have g_bk266_4 : n0 ≤ bk266_4 := Nat.le_trans (Nat.le_trans Z0 sz264) lebk266_4
    have sz_bk266_4 : h0.size ≤ bk266_4 := Nat.le_trans sz264 lebk266_4
    have sz272 : h0.size ≤ Tk266.heap.size := Nat.le_trans sz264 Kk266.1
    have Nk266 := Fr.app Nk265 Nk266q
    obtain ⟨_, _, ⟨Tk273, Lk273, kk273, nk273⟩, -, Xk273, ⟨Lck273, hQk273, lk273, yk273, zk273⟩, stk273⟩ := Jvm.LawKit.callS Xk266 hx (y := (⟨"com/example/evoluta/evoluta/algorithms/de/SelfAdaptationParametersPinLaw", "is", "([[DDD)Z"⟩ : MethodName)) hown (mvT hZ (own_W hw 35 rfl)) (mvT hZ (own_W hw 36 rfl)) (mvT hZ (own_W hw 37 rfl)) (mvT hZ (own_W hw 38 rfl)) (by decide) (backOf (W := 0) (own_rm5 l Z a0 hw [] bk266_0 (0 : UInt64) (0 : UInt64) kk266_1 bk266_2 bk266_4 kk266_3 (own_v4_0 (own_v0_2 p0 p2) (own_upd (own_upd (own_cst (4602678819172646912 : UInt64)) (own_v0_1 p0 p1) (FP.i2d p3)) (own_v0_2 p0 p2) (own_v7_0 (own_v0_2 p0 p2) (own_cst 0)))) kk266_5 (own_v4_1 (own_v0_2 p0 p2) (own_upd (own_upd (own_cst (4606281698874543309 : UInt64)) (own_v0_1 p0 p1) (FP.l2d q4)) (own_v0_2 p0 p2) (own_v7_1 (own_v0_2 p0 p2) (own_cst 0)))) Tk266.heap n0 (Nat.le_trans Z0 sz272) Qk266_1 Qk266_3 Qk266_5 (c313_hc51_2 hs1) (c313_hc61_2 hs1)) hZ (own_W hw 38 rfl) (own_W hw 37 rfl) (by decide) (by decide)) (g := (mkF m 313 #[.val (.int p0), .val (.int p1), .val (.int p2), .val (.int p3), .val (.long q4), .second, .val (.int p5), .val (.int (own_v0_0 p0)), .val (.int (own_v0_1 p0 p1)), .val (.int (own_v0_2 p0 p2)), .val (.int 1), .val (.double (FP.i2d p3)), .second, .val (.double (FP.l2d q4)), .second, .val (.ref bn127), .val (.ref bk131_0), .val (.ref bn150), .val (.ref bk204_0), .val (.double (own_j0_5 p0 p1 p2 p3)), .second, .val (.double (own_j0_6 p0 p1 p2 q4)), .second, .val (.ref bk260_0), .val (.double 0), .second, .val (.double 0), .second, .val (.ref bk266_0)] [(.double 0), (.double 0), (.ref bk266_0)])) rfl (by rw [hml]; rfl) (argsL := [(.ref bk266_0), (.double 0), (.double 0)]) (rest := []) (lenOf own_pd3 rfl) rfl (by show 2 * 0 + _ ≤ _; exact Nat.le_of_eq rfl) (hb hby at_313) (fun _ _ => ⟨rfl, rfl, (by decide : 20 + 0 ≤ _), (by decide : 56 + 0 ≤ _)⟩)
    dsimp only [Pt.U, Pt.locs, Pt.cells, Pt.slots] at Xk273 lk273 yk273 zk273 stk273 hQk273
    replace lk273 := lk273.symm; replace yk273 := yk273.symm; replace zk273 := zk273.symm; subst lk273 yk273 zk273
    obtain ⟨rfl, Nk273q, ek273⟩ := hQk273
    have Nk273 := Fr.app Nk266 Nk273q
    obtain ⟨fs, hr, hrun, hended, hW, hsame⟩ := Xk273.leave (v := some (.int 1)) (fun h => by rw [Bd.returns] at h; cases h)
    refine ⟨_, _, pre0 _ (Ks1 _ (K126 _ (?_))), hrun, hended, _, _, rfl, ?_, ⟨_, rfl⟩, hW, hsame.mono (by decide) (by decide)⟩
    · show Steps p.tables e below (s₁.setTop (mkF m 33 #[.val (.int p0), .val (.int p1), .val (.int p2), .val (.int p3), .val (.long q4), .second, .val (.int p5), .val (.int (own_v0_0 p0)), .val (.int (own_v0_1 p0 p1)), .val (.int (own_v0_2 p0 p2)), .unset, .unset, .unset, .unset, .unset, .unset, .unset, .unset, .unset, .unset, .unset, .unset, .unset, .unset, .unset, .unset, .unset, .unset, .unset] [])) _
      refine XS.iconst X0.here hx rfl (hb hby at_33) ?_
      refine XS.goto X0.here hx rfl (pc0 := 34) (pc' := 38) rfl (hb hby at_34) (by decide) (by decide) ?_
      refine XS.istore X0.here hx rfl (hb hby at_38) rfl (l' := #[.val (.int p0), .val (.int p1), .val (.int p2), .val (.int p3), .val (.long q4), .second, .val (.int p5), .val (.int (own_v0_0 p0)), .val (.int (own_v0_1 p0 p1)), .val (.int (own_v0_2 p0 p2)), .val (.int 1), .unset, .unset, .unset, .unset, .unset, .unset, .unset, .unset, .unset, .unset, .unset, .unset, .unset, .unset, .unset, .unset, .unset, .unset]) rfl ?_
      refine XS.iloadN X0.here hx rfl (hb hby at_40) rfl ?_
      refine XS.i2dS X0.here hx rfl (hb hby at_41) rfl rfl ?_
      refine XS.dstore X0.here hx rfl (hb hby at_42) rfl (l' := #[.val (.int p0), .val (.int p1), .val (.int p2), .val (.int p3), .val (.long q4), .second, .val (.int p5), .val (.int (own_v0_0 p0)), .val (.int (own_v0_1 p0 p1)), .val (.int (own_v0_2 p0 p2)), .val (.int 1), .val (.double (FP.i2d p3)), .second, .unset, .unset, .unset, .unset, .unset, .unset, .unset, .unset, .unset, .unset, .unset, .unset, .unset, .unset, .unset, .unset]) rfl ?_
      refine XT.lload X0.here hx rfl (hb hby at_44) rfl ?_
      refine XS.l2dS X0.here hx rfl (hb hby at_46) rfl rfl ?_
      refine XS.dstore X0.here hx rfl (hb hby at_47) rfl (l' := #[.val (.int p0), .val (.int p1), .val (.int p2), .val (.int p3), .val (.long q4), .second, .val (.int p5), .val (.int (own_v0_0 p0)), .val (.int (own_v0_1 p0 p1)), .val (.int (own_v0_2 p0 p2)), .val (.int 1), .val (.double (FP.i2d p3)), .second, .val (.double (FP.l2d q4)), .second, .unset, .unset, .unset, .unset, .unset, .unset, .unset, .unset, .unset, .unset, .unset, .unset, .unset, .unset]) rfl ?_
      refine stn127 _ ?_
      show Steps p.tables e below (Tn127.setTop (mkF m 52 #[.val (.int p0), .val (.int p1), .val (.int p2), .val (.int p3), .val (.long q4), .second, .val (.int p5), .val (.int (own_v0_0 p0)), .val (.int (own_v0_1 p0 p1)), .val (.int (own_v0_2 p0 p2)), .val (.int 1), .val (.double (FP.i2d p3)), .second, .val (.double (FP.l2d q4)), .second, .unset, .unset, .unset, .unset, .unset, .unset, .unset, .unset, .unset, .unset, .unset, .unset, .unset, .unset] [(.ref bn127)])) _
      refine XS.dup Xn127.here hx rfl (hb hby at_52) rfl rfl ?_
      refine XS.iload Xn127.here hx rfl (hb hby at_53) rfl ?_
      refine stk129.trans ?_
      show Steps p.tables e below (Tk129.setTop (mkF m 58 #[.val (.int p0), .val (.int p1), .val (.int p2), .val (.int p3), .val (.long q4), .second, .val (.int p5), .val (.int (own_v0_0 p0)), .val (.int (own_v0_1 p0 p1)), .val (.int (own_v0_2 p0 p2)), .val (.int 1), .val (.double (FP.i2d p3)), .second, .val (.double (FP.l2d q4)), .second, .unset, .unset, .unset, .unset, .unset, .unset, .unset, .unset, .unset, .unset, .unset, .unset, .unset, .unset] [(.ref bn127)])) _
      refine XS.astore Xk129.here hx rfl (hb hby at_58) rfl rfl (l' := #[.val (.int p0), .val (.int p1), .val (.int p2), .val (.int p3), .val (.long q4), .second, .val (.int p5), .val (.int (own_v0_0 p0)), .val (.int (own_v0_1 p0 p1)), .val (.int (own_v0_2 p0 p2)), .val (.int 1), .val (.double (FP.i2d p3)), .second, .val (.double (FP.l2d q4)), .second, .val (.ref bn127), .unset, .unset, .unset, .unset, .unset, .unset, .unset, .unset, .unset, .unset, .unset, .unset, .unset]) rfl ?_
      refine XS.aload Xk129.here hx rfl (hb hby at_60) rfl rfl ?_
      refine XS.iload Xk129.here hx rfl (hb hby at_62) rfl ?_
      refine stk131.trans ?_
      show Steps p.tables e below (Tk131.setTop (mkF m 67 #[.val (.int p0), .val (.int p1), .val (.int p2), .val (.int p3), .val (.long q4), .second, .val (.int p5), .val (.int (own_v0_0 p0)), .val (.int (own_v0_1 p0 p1)), .val (.int (own_v0_2 p0 p2)), .val (.int 1), .val (.double (FP.i2d p3)), .second, .val (.double (FP.l2d q4)), .second, .val (.ref bn127), .unset, .unset, .unset, .unset, .unset, .unset, .unset, .unset, .unset, .unset, .unset, .unset, .unset] [(.ref bk131_0)])) _
      refine XS.astore Xk131.here hx rfl (hb hby at_67) rfl rfl (l' := #[.val (.int p0), .val (.int p1), .val (.int p2), .val (.int p3), .val (.long q4), .second, .val (.int p5), .val (.int (own_v0_0 p0)), .val (.int (own_v0_1 p0 p1)), .val (.int (own_v0_2 p0 p2)), .val (.int 1), .val (.double (FP.i2d p3)), .second, .val (.double (FP.l2d q4)), .second, .val (.ref bn127), .val (.ref bk131_0), .unset, .unset, .unset, .unset, .unset, .unset, .unset, .unset, .unset, .unset, .unset, .unset]) rfl ?_
      refine XS.aload Xk131.here hx rfl (hb hby at_69) rfl rfl ?_
      refine Xk131.ldc2DoubleC hx hown (mvT hZ (own_W hw 33 rfl)) (g := (mkF m 71 #[.val (.int p0), .val (.int p1), .val (.int p2), .val (.int p3), .val (.long q4), .second, .val (.int p5), .val (.int (own_v0_0 p0)), .val (.int (own_v0_1 p0 p1)), .val (.int (own_v0_2 p0 p2)), .val (.int 1), .val (.double (FP.i2d p3)), .second, .val (.double (FP.l2d q4)), .second, .val (.ref bn127), .val (.ref bk131_0), .unset, .unset, .unset, .unset, .unset, .unset, .unset, .unset, .unset, .unset, .unset, .unset] [(.ref bk131_0)])) rfl (hb hby at_71) _ ?_
      show Steps p.tables e below (Tk131.setTop (mkF m 74 #[.val (.int p0), .val (.int p1), .val (.int p2), .val (.int p3), .val (.long q4), .second, .val (.int p5), .val (.int (own_v0_0 p0)), .val (.int (own_v0_1 p0 p1)), .val (.int (own_v0_2 p0 p2)), .val (.int 1), .val (.double (FP.i2d p3)), .second, .val (.double (FP.l2d q4)), .second, .val (.ref bn127), .val (.ref bk131_0), .unset, .unset, .unset, .unset, .unset, .unset, .unset, .unset, .unset, .unset, .unset, .unset] [(.double 4602678819172646912), (.ref bk131_0)])) _
      refine Xk131.ldc2DoubleC hx hown (mvT hZ (own_W hw 34 rfl)) (g := (mkF m 74 #[.val (.int p0), .val (.int p1), .val (.int p2), .val (.int p3), .val (.long q4), .second, .val (.int p5), .val (.int (own_v0_0 p0)), .val (.int (own_v0_1 p0 p1)), .val (.int (own_v0_2 p0 p2)), .val (.int 1), .val (.double (FP.i2d p3)), .second, .val (.double (FP.l2d q4)), .second, .val (.ref bn127), .val (.ref bk131_0), .unset, .unset, .unset, .unset, .unset, .unset, .unset, .unset, .unset, .unset, .unset, .unset] [(.double 4602678819172646912), (.ref bk131_0)])) rfl (hb hby at_74) _ ?_
      refine stk133 _ ?_
      refine XS.ifYes Xk133.here hx rfl (pc0 := 80) (pc' := 85) rfl (hb hby at_80) rfl (XT.i0_ne_t (by decide : ¬ ((1 : Int32) = (0 : Int32)))) (by decide) (by decide) ?_
      refine XS.aload Xk133.here hx rfl (hb hby at_85) rfl rfl ?_
      refine XS.iconst Xk133.here hx rfl (hb hby at_87) ?_
      refine Xk133.aaload hx (j := (0 : Int32)) (v := (.ref bk131_2)) (by rw [ek133]; exact Aro134.1) (State.isArrayOf_alike hZ.alike Aro134.2.1) rfl Aro134.2.2 hi135 ha136 (g := (mkF m 88 #[.val (.int p0), .val (.int p1), .val (.int p2), .val (.int p3), .val (.long q4), .second, .val (.int p5), .val (.int (own_v0_0 p0)), .val (.int (own_v0_1 p0 p1)), .val (.int (own_v0_2 p0 p2)), .val (.int 1), .val (.double (FP.i2d p3)), .second, .val (.double (FP.l2d q4)), .second, .val (.ref bn127), .val (.ref bk131_0), .unset, .unset, .unset, .unset, .unset, .unset, .unset, .unset, .unset, .unset, .unset, .unset] [(.int 0), (.ref bk131_0)])) rfl rfl (hb hby at_88) _ ?_
      show Steps p.tables e below (Tk133.setTop (mkF m 89 #[.val (.int p0), .val (.int p1), .val (.int p2), .val (.int p3), .val (.long q4), .second, .val (.int p5), .val (.int (own_v0_0 p0)), .val (.int (own_v0_1 p0 p1)), .val (.int (own_v0_2 p0 p2)), .val (.int 1), .val (.double (FP.i2d p3)), .second, .val (.double (FP.l2d q4)), .second, .val (.ref bn127), .val (.ref bk131_0), .unset, .unset, .unset, .unset, .unset, .unset, .unset, .unset, .unset, .unset, .unset, .unset] [(.ref bk131_2)])) _
      refine XS.iconst Xk133.here hx rfl (hb hby at_89) ?_
      refine Xk133.ldc2DoubleC hx hown (mvT hZ (own_W hw 39 rfl)) (g := (mkF m 90 #[.val (.int p0), .val (.int p1), .val (.int p2), .val (.int p3), .val (.long q4), .second, .val (.int p5), .val (.int (own_v0_0 p0)), .val (.int (own_v0_1 p0 p1)), .val (.int (own_v0_2 p0 p2)), .val (.int 1), .val (.double (FP.i2d p3)), .second, .val (.double (FP.l2d q4)), .second, .val (.ref bn127), .val (.ref bk131_0), .unset, .unset, .unset, .unset, .unset, .unset, .unset, .unset, .unset, .unset, .unset, .unset] [(.int 0), (.ref bk131_2)])) rfl (hb hby at_90) _ ?_
      refine sto139 _ ?_
      show Steps p.tables e below (To139.setTop (mkF m 94 #[.val (.int p0), .val (.int p1), .val (.int p2), .val (.int p3), .val (.long q4), .second, .val (.int p5), .val (.int (own_v0_0 p0)), .val (.int (own_v0_1 p0 p1)), .val (.int (own_v0_2 p0 p2)), .val (.int 1), .val (.double (FP.i2d p3)), .second, .val (.double (FP.l2d q4)), .second, .val (.ref bn127), .val (.ref bk131_0), .unset, .unset, .unset, .unset, .unset, .unset, .unset, .unset, .unset, .unset, .unset, .unset] [])) _
      refine XS.aload Xo139.here hx rfl (hb hby at_94) rfl rfl ?_
      refine XS.iconst Xo139.here hx rfl (hb hby at_96) ?_
      refine Xo139.aaload hx (j := (1 : Int32)) (v := (.ref bk131_4)) (by rw [eo139]; exact Aro142.1) (State.isArrayOf_alike hZ.alike Aro142.2.1) rfl Aro142.2.2 hi143 ha144 (g := (mkF m 97 #[.val (.int p0), .val (.int p1), .val (.int p2), .val (.int p3), .val (.long q4), .second, .val (.int p5), .val (.int (own_v0_0 p0)), .val (.int (own_v0_1 p0 p1)), .val (.int (own_v0_2 p0 p2)), .val (.int 1), .val (.double (FP.i2d p3)), .second, .val (.double (FP.l2d q4)), .second, .val (.ref bn127), .val (.ref bk131_0), .unset, .unset, .unset, .unset, .unset, .unset, .unset, .unset, .unset, .unset, .unset, .unset] [(.int 1), (.ref bk131_0)])) rfl rfl (hb hby at_97) _ ?_
      show Steps p.tables e below (To139.setTop (mkF m 98 #[.val (.int p0), .val (.int p1), .val (.int p2), .val (.int p3), .val (.long q4), .second, .val (.int p5), .val (.int (own_v0_0 p0)), .val (.int (own_v0_1 p0 p1)), .val (.int (own_v0_2 p0 p2)), .val (.int 1), .val (.double (FP.i2d p3)), .second, .val (.double (FP.l2d q4)), .second, .val (.ref bn127), .val (.ref bk131_0), .unset, .unset, .unset, .unset, .unset, .unset, .unset, .unset, .unset, .unset, .unset, .unset] [(.ref bk131_4)])) _
      refine XS.iconst Xo139.here hx rfl (hb hby at_98) ?_
      refine Xo139.ldc2DoubleC hx hown (mvT hZ (own_W hw 39 rfl)) (g := (mkF m 99 #[.val (.int p0), .val (.int p1), .val (.int p2), .val (.int p3), .val (.long q4), .second, .val (.int p5), .val (.int (own_v0_0 p0)), .val (.int (own_v0_1 p0 p1)), .val (.int (own_v0_2 p0 p2)), .val (.int 1), .val (.double (FP.i2d p3)), .second, .val (.double (FP.l2d q4)), .second, .val (.ref bn127), .val (.ref bk131_0), .unset, .unset, .unset, .unset, .unset, .unset, .unset, .unset, .unset, .unset, .unset, .unset] [(.int 0), (.ref bk131_4)])) rfl (hb hby at_99) _ ?_
      refine sto148 _ ?_
      show Steps p.tables e below (To148.setTop (mkF m 103 #[.val (.int p0), .val (.int p1), .val (.int p2), .val (.int p3), .val (.long q4), .second, .val (.int p5), .val (.int (own_v0_0 p0)), .val (.int (own_v0_1 p0 p1)), .val (.int (own_v0_2 p0 p2)), .val (.int 1), .val (.double (FP.i2d p3)), .second, .val (.double (FP.l2d q4)), .second, .val (.ref bn127), .val (.ref bk131_0), .unset, .unset, .unset, .unset, .unset, .unset, .unset, .unset, .unset, .unset, .unset, .unset] [])) _
      refine XS.iconst Xo148.here hx rfl (hb hby at_103) ?_
      refine stn150 _ ?_
      refine XS.dup Xn150.here hx rfl (hb hby at_107) rfl rfl ?_
      refine XS.iconst Xn150.here hx rfl (hb hby at_108) ?_
      refine XS.iconst Xn150.here hx rfl (hb hby at_109) ?_
      refine stn152 _ ?_
      show Steps p.tables e below (Tn152.setTop (mkF m 112 #[.val (.int p0), .val (.int p1), .val (.int p2), .val (.int p3), .val (.long q4), .second, .val (.int p5), .val (.int (own_v0_0 p0)), .val (.int (own_v0_1 p0 p1)), .val (.int (own_v0_2 p0 p2)), .val (.int 1), .val (.double (FP.i2d p3)), .second, .val (.double (FP.l2d q4)), .second, .val (.ref bn127), .val (.ref bk131_0), .unset, .unset, .unset, .unset, .unset, .unset, .unset, .unset, .unset, .unset, .unset, .unset] [(.ref bn152), (.int 0), (.ref bn150), (.ref bn150)])) _
      refine XS.dup Xn152.here hx rfl (hb hby at_112) rfl rfl ?_
      refine XS.iconst Xn152.here hx rfl (hb hby at_113) ?_
      refine XS.dload Xn152.here hx rfl (hb hby at_114) rfl ?_
      refine sto156 _ ?_
      show Steps p.tables e below (To156.setTop (mkF m 117 #[.val (.int p0), .val (.int p1), .val (.int p2), .val (.int p3), .val (.long q4), .second, .val (.int p5), .val (.int (own_v0_0 p0)), .val (.int (own_v0_1 p0 p1)), .val (.int (own_v0_2 p0 p2)), .val (.int 1), .val (.double (FP.i2d p3)), .second, .val (.double (FP.l2d q4)), .second, .val (.ref bn127), .val (.ref bk131_0), .unset, .unset, .unset, .unset, .unset, .unset, .unset, .unset, .unset, .unset, .unset, .unset] [(.ref bn152), (.int 0), (.ref bn150), (.ref bn150)])) _
      refine sto162 _ ?_
      refine XS.dup Xo162.here hx rfl (hb hby at_118) rfl rfl ?_
      refine XS.iconst Xo162.here hx rfl (hb hby at_119) ?_
      refine XS.iconst Xo162.here hx rfl (hb hby at_120) ?_
      refine stn165 _ ?_
      show Steps p.tables e below (Tn165.setTop (mkF m 123 #[.val (.int p0), .val (.int p1), .val (.int p2), .val (.int p3), .val (.long q4), .second, .val (.int p5), .val (.int (own_v0_0 p0)), .val (.int (own_v0_1 p0 p1)), .val (.int (own_v0_2 p0 p2)), .val (.int 1), .val (.double (FP.i2d p3)), .second, .val (.double (FP.l2d q4)), .second, .val (.ref bn127), .val (.ref bk131_0), .unset, .unset, .unset, .unset, .unset, .unset, .unset, .unset, .unset, .unset, .unset, .unset] [(.ref bn165), (.int 1), (.ref bn150), (.ref bn150)])) _
      refine XS.dup Xn165.here hx rfl (hb hby at_123) rfl rfl ?_
      refine XS.iconst Xn165.here hx rfl (hb hby at_124) ?_
      refine XS.dload Xn165.here hx rfl (hb hby at_125) rfl ?_
      refine sto169 _ ?_
      show Steps p.tables e below (To169.setTop (mkF m 128 #[.val (.int p0), .val (.int p1), .val (.int p2), .val (.int p3), .val (.long q4), .second, .val (.int p5), .val (.int (own_v0_0 p0)), .val (.int (own_v0_1 p0 p1)), .val (.int (own_v0_2 p0 p2)), .val (.int 1), .val (.double (FP.i2d p3)), .second, .val (.double (FP.l2d q4)), .second, .val (.ref bn127), .val (.ref bk131_0), .unset, .unset, .unset, .unset, .unset, .unset, .unset, .unset, .unset, .unset, .unset, .unset] [(.ref bn165), (.int 1), (.ref bn150), (.ref bn150)])) _
      refine sto175 _ ?_
      refine XS.astore Xo175.here hx rfl (hb hby at_129) rfl rfl (l' := #[.val (.int p0), .val (.int p1), .val (.int p2), .val (.int p3), .val (.long q4), .second, .val (.int p5), .val (.int (own_v0_0 p0)), .val (.int (own_v0_1 p0 p1)), .val (.int (own_v0_2 p0 p2)), .val (.int 1), .val (.double (FP.i2d p3)), .second, .val (.double (FP.l2d q4)), .second, .val (.ref bn127), .val (.ref bk131_0), .val (.ref bn150), .unset, .unset, .unset, .unset, .unset, .unset, .unset, .unset, .unset, .unset, .unset]) rfl ?_
      refine XS.aload Xo175.here hx rfl (hb hby at_131) rfl rfl ?_
      refine XS.iload Xo175.here hx rfl (hb hby at_133) rfl ?_
      refine XS.aload Xo175.here hx rfl (hb hby at_135) rfl rfl ?_
      refine stk178.trans ?_
      show Steps p.tables e below (Tk178.setTop (mkF m 140 #[.val (.int p0), .val (.int p1), .val (.int p2), .val (.int p3), .val (.long q4), .second, .val (.int p5), .val (.int (own_v0_0 p0)), .val (.int (own_v0_1 p0 p1)), .val (.int (own_v0_2 p0 p2)), .val (.int 1), .val (.double (FP.i2d p3)), .second, .val (.double (FP.l2d q4)), .second, .val (.ref bn127), .val (.ref bk131_0), .val (.ref bn150), .unset, .unset, .unset, .unset, .unset, .unset, .unset, .unset, .unset, .unset, .unset] [])) _
      refine XS.aload Xk178.here hx rfl (hb hby at_140) rfl rfl ?_
      refine XS.iload Xk178.here hx rfl (hb hby at_142) rfl ?_
      refine stk204.trans ?_
      show Steps p.tables e below (Tk204.setTop (mkF m 147 #[.val (.int p0), .val (.int p1), .val (.int p2), .val (.int p3), .val (.long q4), .second, .val (.int p5), .val (.int (own_v0_0 p0)), .val (.int (own_v0_1 p0 p1)), .val (.int (own_v0_2 p0 p2)), .val (.int 1), .val (.double (FP.i2d p3)), .second, .val (.double (FP.l2d q4)), .second, .val (.ref bn127), .val (.ref bk131_0), .val (.ref bn150), .unset, .unset, .unset, .unset, .unset, .unset, .unset, .unset, .unset, .unset, .unset] [(.ref bk204_0)])) _
      refine XS.astore Xk204.here hx rfl (hb hby at_147) rfl rfl (l' := #[.val (.int p0), .val (.int p1), .val (.int p2), .val (.int p3), .val (.long q4), .second, .val (.int p5), .val (.int (own_v0_0 p0)), .val (.int (own_v0_1 p0 p1)), .val (.int (own_v0_2 p0 p2)), .val (.int 1), .val (.double (FP.i2d p3)), .second, .val (.double (FP.l2d q4)), .second, .val (.ref bn127), .val (.ref bk131_0), .val (.ref bn150), .val (.ref bk204_0), .unset, .unset, .unset, .unset, .unset, .unset, .unset, .unset, .unset, .unset]) rfl ?_
      refine XS.aload Xk204.here hx rfl (hb hby at_149) rfl rfl ?_
      refine XS.dload Xk204.here hx rfl (hb hby at_151) rfl ?_
      refine XS.dload Xk204.here hx rfl (hb hby at_153) rfl ?_
      refine stk210 _ ?_
      show Steps p.tables e below (Tk210.setTop (mkF m 158 #[.val (.int p0), .val (.int p1), .val (.int p2), .val (.int p3), .val (.long q4), .second, .val (.int p5), .val (.int (own_v0_0 p0)), .val (.int (own_v0_1 p0 p1)), .val (.int (own_v0_2 p0 p2)), .val (.int 1), .val (.double (FP.i2d p3)), .second, .val (.double (FP.l2d q4)), .second, .val (.ref bn127), .val (.ref bk131_0), .val (.ref bn150), .val (.ref bk204_0), .unset, .unset, .unset, .unset, .unset, .unset, .unset, .unset, .unset, .unset] [(.int 1)])) _
      refine XS.ifYes Xk210.here hx rfl (pc0 := 158) (pc' := 163) rfl (hb hby at_158) rfl (XT.i0_ne_t (by decide : ¬ ((1 : Int32) = (0 : Int32)))) (by decide) (by decide) ?_
      refine XS.aload Xk210.here hx rfl (hb hby at_163) rfl rfl ?_
      refine XS.iconst Xk210.here hx rfl (hb hby at_165) ?_
      refine Xk210.aaload hx (j := (0 : Int32)) (v := (.ref bk204_2)) (by rw [ek210]; exact Aro211.1) (State.isArrayOf_alike hZ.alike Aro211.2.1) rfl Aro211.2.2 hi212 ha213 (g := (mkF m 166 #[.val (.int p0), .val (.int p1), .val (.int p2), .val (.int p3), .val (.long q4), .second, .val (.int p5), .val (.int (own_v0_0 p0)), .val (.int (own_v0_1 p0 p1)), .val (.int (own_v0_2 p0 p2)), .val (.int 1), .val (.double (FP.i2d p3)), .second, .val (.double (FP.l2d q4)), .second, .val (.ref bn127), .val (.ref bk131_0), .val (.ref bn150), .val (.ref bk204_0), .unset, .unset, .unset, .unset, .unset, .unset, .unset, .unset, .unset, .unset] [(.int 0), (.ref bk204_0)])) rfl rfl (hb hby at_166) _ ?_
      show Steps p.tables e below (Tk210.setTop (mkF m 167 #[.val (.int p0), .val (.int p1), .val (.int p2), .val (.int p3), .val (.long q4), .second, .val (.int p5), .val (.int (own_v0_0 p0)), .val (.int (own_v0_1 p0 p1)), .val (.int (own_v0_2 p0 p2)), .val (.int 1), .val (.double (FP.i2d p3)), .second, .val (.double (FP.l2d q4)), .second, .val (.ref bn127), .val (.ref bk131_0), .val (.ref bn150), .val (.ref bk204_0), .unset, .unset, .unset, .unset, .unset, .unset, .unset, .unset, .unset, .unset] [(.ref bk204_2)])) _
      refine XS.iconst Xk210.here hx rfl (hb hby at_167) ?_
      refine Xk210.ldc2DoubleC hx hown (mvT hZ (own_W hw 39 rfl)) (g := (mkF m 168 #[.val (.int p0), .val (.int p1), .val (.int p2), .val (.int p3), .val (.long q4), .second, .val (.int p5), .val (.int (own_v0_0 p0)), .val (.int (own_v0_1 p0 p1)), .val (.int (own_v0_2 p0 p2)), .val (.int 1), .val (.double (FP.i2d p3)), .second, .val (.double (FP.l2d q4)), .second, .val (.ref bn127), .val (.ref bk131_0), .val (.ref bn150), .val (.ref bk204_0), .unset, .unset, .unset, .unset, .unset, .unset, .unset, .unset, .unset, .unset] [(.int 0), (.ref bk204_2)])) rfl (hb hby at_168) _ ?_
      refine sto216 _ ?_
      show Steps p.tables e below (To216.setTop (mkF m 172 #[.val (.int p0), .val (.int p1), .val (.int p2), .val (.int p3), .val (.long q4), .second, .val (.int p5), .val (.int (own_v0_0 p0)), .val (.int (own_v0_1 p0 p1)), .val (.int (own_v0_2 p0 p2)), .val (.int 1), .val (.double (FP.i2d p3)), .second, .val (.double (FP.l2d q4)), .second, .val (.ref bn127), .val (.ref bk131_0), .val (.ref bn150), .val (.ref bk204_0), .unset, .unset, .unset, .unset, .unset, .unset, .unset, .unset, .unset, .unset] [])) _
      refine XS.aload Xo216.here hx rfl (hb hby at_172) rfl rfl ?_
      refine XS.iconst Xo216.here hx rfl (hb hby at_174) ?_
      refine Xo216.aaload hx (j := (1 : Int32)) (v := (.ref bk204_4)) (by rw [eo216]; exact Aro219.1) (State.isArrayOf_alike hZ.alike Aro219.2.1) rfl Aro219.2.2 hi220 ha221 (g := (mkF m 175 #[.val (.int p0), .val (.int p1), .val (.int p2), .val (.int p3), .val (.long q4), .second, .val (.int p5), .val (.int (own_v0_0 p0)), .val (.int (own_v0_1 p0 p1)), .val (.int (own_v0_2 p0 p2)), .val (.int 1), .val (.double (FP.i2d p3)), .second, .val (.double (FP.l2d q4)), .second, .val (.ref bn127), .val (.ref bk131_0), .val (.ref bn150), .val (.ref bk204_0), .unset, .unset, .unset, .unset, .unset, .unset, .unset, .unset, .unset, .unset] [(.int 1), (.ref bk204_0)])) rfl rfl (hb hby at_175) _ ?_
      show Steps p.tables e below (To216.setTop (mkF m 176 #[.val (.int p0), .val (.int p1), .val (.int p2), .val (.int p3), .val (.long q4), .second, .val (.int p5), .val (.int (own_v0_0 p0)), .val (.int (own_v0_1 p0 p1)), .val (.int (own_v0_2 p0 p2)), .val (.int 1), .val (.double (FP.i2d p3)), .second, .val (.double (FP.l2d q4)), .second, .val (.ref bn127), .val (.ref bk131_0), .val (.ref bn150), .val (.ref bk204_0), .unset, .unset, .unset, .unset, .unset, .unset, .unset, .unset, .unset, .unset] [(.ref bk204_4)])) _
      refine XS.iconst Xo216.here hx rfl (hb hby at_176) ?_
      refine Xo216.ldc2DoubleC hx hown (mvT hZ (own_W hw 39 rfl)) (g := (mkF m 177 #[.val (.int p0), .val (.int p1), .val (.int p2), .val (.int p3), .val (.long q4), .second, .val (.int p5), .val (.int (own_v0_0 p0)), .val (.int (own_v0_1 p0 p1)), .val (.int (own_v0_2 p0 p2)), .val (.int 1), .val (.double (FP.i2d p3)), .second, .val (.double (FP.l2d q4)), .second, .val (.ref bn127), .val (.ref bk131_0), .val (.ref bn150), .val (.ref bk204_0), .unset, .unset, .unset, .unset, .unset, .unset, .unset, .unset, .unset, .unset] [(.int 0), (.ref bk204_4)])) rfl (hb hby at_177) _ ?_
      refine sto225 _ ?_
      show Steps p.tables e below (To225.setTop (mkF m 181 #[.val (.int p0), .val (.int p1), .val (.int p2), .val (.int p3), .val (.long q4), .second, .val (.int p5), .val (.int (own_v0_0 p0)), .val (.int (own_v0_1 p0 p1)), .val (.int (own_v0_2 p0 p2)), .val (.int 1), .val (.double (FP.i2d p3)), .second, .val (.double (FP.l2d q4)), .second, .val (.ref bn127), .val (.ref bk131_0), .val (.ref bn150), .val (.ref bk204_0), .unset, .unset, .unset, .unset, .unset, .unset, .unset, .unset, .unset, .unset] [])) _
      refine XS.iload Xo225.here hx rfl (hb hby at_181) rfl ?_
      refine XS.ifNo Xo225.here hx rfl (hb hby at_183) rfl (XT.i0_eq_f (by decide : ¬ ((1 : Int32) = (0 : Int32)))) ?_
      refine XS.aload Xo225.here hx rfl (hb hby at_186) rfl rfl ?_
      refine XS.iload Xo225.here hx rfl (hb hby at_188) rfl ?_
      refine stk227.trans ?_
      show Steps p.tables e below (Tk227.setTop (mkF m 193 #[.val (.int p0), .val (.int p1), .val (.int p2), .val (.int p3), .val (.long q4), .second, .val (.int p5), .val (.int (own_v0_0 p0)), .val (.int (own_v0_1 p0 p1)), .val (.int (own_v0_2 p0 p2)), .val (.int 1), .val (.double (FP.i2d p3)), .second, .val (.double (FP.l2d q4)), .second, .val (.ref bn127), .val (.ref bk131_0), .val (.ref bn150), .val (.ref bk204_0), .unset, .unset, .unset, .unset, .unset, .unset, .unset, .unset, .unset, .unset] [])) _
      refine XS.iload Xk227.here hx rfl (hb hby at_193) rfl ?_
      refine XS.ifNo Xk227.here hx rfl (hb hby at_195) rfl (XT.i0_eq_f (by decide : ¬ ((1 : Int32) = (0 : Int32)))) ?_
      refine XS.iload Xk227.here hx rfl (hb hby at_198) rfl ?_
      refine XS.iload Xk227.here hx rfl (hb hby at_200) rfl ?_
      refine stj258 _ ?_
      show Steps p.tables e below (Tj258.setTop (mkF m 211 #[.val (.int p0), .val (.int p1), .val (.int p2), .val (.int p3), .val (.long q4), .second, .val (.int p5), .val (.int (own_v0_0 p0)), .val (.int (own_v0_1 p0 p1)), .val (.int (own_v0_2 p0 p2)), .val (.int 1), .val (.double (FP.i2d p3)), .second, .val (.double (FP.l2d q4)), .second, .val (.ref bn127), .val (.ref bk131_0), .val (.ref bn150), .val (.ref bk204_0), .unset, .unset, .unset, .unset, .unset, .unset, .unset, .unset, .unset, .unset] [(.double (own_j0_5 p0 p1 p2 p3))])) _
      refine XS.dstore Xj258.here hx rfl (hb hby at_211) rfl (l' := #[.val (.int p0), .val (.int p1), .val (.int p2), .val (.int p3), .val (.long q4), .second, .val (.int p5), .val (.int (own_v0_0 p0)), .val (.int (own_v0_1 p0 p1)), .val (.int (own_v0_2 p0 p2)), .val (.int 1), .val (.double (FP.i2d p3)), .second, .val (.double (FP.l2d q4)), .second, .val (.ref bn127), .val (.ref bk131_0), .val (.ref bn150), .val (.ref bk204_0), .val (.double (own_j0_5 p0 p1 p2 p3)), .second, .unset, .unset, .unset, .unset, .unset, .unset, .unset, .unset]) rfl ?_
      refine XS.iload Xj258.here hx rfl (hb hby at_213) rfl ?_
      refine XS.ifNo Xj258.here hx rfl (hb hby at_215) rfl (XT.i0_eq_f (by decide : ¬ ((1 : Int32) = (0 : Int32)))) ?_
      refine XS.iload Xj258.here hx rfl (hb hby at_218) rfl ?_
      refine XS.iload Xj258.here hx rfl (hb hby at_220) rfl ?_
      refine stj259 _ ?_
      show Steps p.tables e below (Tj259.setTop (mkF m 231 #[.val (.int p0), .val (.int p1), .val (.int p2), .val (.int p3), .val (.long q4), .second, .val (.int p5), .val (.int (own_v0_0 p0)), .val (.int (own_v0_1 p0 p1)), .val (.int (own_v0_2 p0 p2)), .val (.int 1), .val (.double (FP.i2d p3)), .second, .val (.double (FP.l2d q4)), .second, .val (.ref bn127), .val (.ref bk131_0), .val (.ref bn150), .val (.ref bk204_0), .val (.double (own_j0_5 p0 p1 p2 p3)), .second, .unset, .unset, .unset, .unset, .unset, .unset, .unset, .unset] [(.double (own_j0_6 p0 p1 p2 q4))])) _
      refine XS.dstore Xj259.here hx rfl (hb hby at_231) rfl (l' := #[.val (.int p0), .val (.int p1), .val (.int p2), .val (.int p3), .val (.long q4), .second, .val (.int p5), .val (.int (own_v0_0 p0)), .val (.int (own_v0_1 p0 p1)), .val (.int (own_v0_2 p0 p2)), .val (.int 1), .val (.double (FP.i2d p3)), .second, .val (.double (FP.l2d q4)), .second, .val (.ref bn127), .val (.ref bk131_0), .val (.ref bn150), .val (.ref bk204_0), .val (.double (own_j0_5 p0 p1 p2 p3)), .second, .val (.double (own_j0_6 p0 p1 p2 q4)), .second, .unset, .unset, .unset, .unset, .unset, .unset]) rfl ?_
      refine XS.aload Xj259.here hx rfl (hb hby at_233) rfl rfl ?_
      refine XS.iload Xj259.here hx rfl (hb hby at_235) rfl ?_
      refine stk260.trans ?_
      show Steps p.tables e below (Tk260.setTop (mkF m 240 #[.val (.int p0), .val (.int p1), .val (.int p2), .val (.int p3), .val (.long q4), .second, .val (.int p5), .val (.int (own_v0_0 p0)), .val (.int (own_v0_1 p0 p1)), .val (.int (own_v0_2 p0 p2)), .val (.int 1), .val (.double (FP.i2d p3)), .second, .val (.double (FP.l2d q4)), .second, .val (.ref bn127), .val (.ref bk131_0), .val (.ref bn150), .val (.ref bk204_0), .val (.double (own_j0_5 p0 p1 p2 p3)), .second, .val (.double (own_j0_6 p0 p1 p2 q4)), .second, .unset, .unset, .unset, .unset, .unset, .unset] [(.ref bk260_0)])) _
      refine XS.astore Xk260.here hx rfl (hb hby at_240) rfl rfl (l' := #[.val (.int p0), .val (.int p1), .val (.int p2), .val (.int p3), .val (.long q4), .second, .val (.int p5), .val (.int (own_v0_0 p0)), .val (.int (own_v0_1 p0 p1)), .val (.int (own_v0_2 p0 p2)), .val (.int 1), .val (.double (FP.i2d p3)), .second, .val (.double (FP.l2d q4)), .second, .val (.ref bn127), .val (.ref bk131_0), .val (.ref bn150), .val (.ref bk204_0), .val (.double (own_j0_5 p0 p1 p2 p3)), .second, .val (.double (own_j0_6 p0 p1 p2 q4)), .second, .val (.ref bk260_0), .unset, .unset, .unset, .unset, .unset]) rfl ?_
      refine XS.aload Xk260.here hx rfl (hb hby at_242) rfl rfl ?_
      refine XS.dload Xk260.here hx rfl (hb hby at_244) rfl ?_
      refine XS.dload Xk260.here hx rfl (hb hby at_246) rfl ?_
      refine stk265 _ ?_
      show Steps p.tables e below (Tk265.setTop (mkF m 251 #[.val (.int p0), .val (.int p1), .val (.int p2), .val (.int p3), .val (.long q4), .second, .val (.int p5), .val (.int (own_v0_0 p0)), .val (.int (own_v0_1 p0 p1)), .val (.int (own_v0_2 p0 p2)), .val (.int 1), .val (.double (FP.i2d p3)), .second, .val (.double (FP.l2d q4)), .second, .val (.ref bn127), .val (.ref bk131_0), .val (.ref bn150), .val (.ref bk204_0), .val (.double (own_j0_5 p0 p1 p2 p3)), .second, .val (.double (own_j0_6 p0 p1 p2 q4)), .second, .val (.ref bk260_0), .unset, .unset, .unset, .unset, .unset] [(.int 1)])) _
      refine XS.ifYes Xk265.here hx rfl (pc0 := 251) (pc' := 256) rfl (hb hby at_251) rfl (XT.i0_ne_t (by decide : ¬ ((1 : Int32) = (0 : Int32)))) (by decide) (by decide) ?_
      refine XS.iload Xk265.here hx rfl (hb hby at_256) rfl ?_
      refine XS.ifNo Xk265.here hx rfl (hb hby at_258) rfl (XT.i0_eq_f (by decide : ¬ ((1 : Int32) = (0 : Int32)))) ?_
      refine XS.dconst0 Xk265.here hx rfl (hb hby at_261) (v := (0 : UInt64)) (by decide +kernel) ?_
      show Steps p.tables e below (Tk265.setTop (mkF m 262 #[.val (.int p0), .val (.int p1), .val (.int p2), .val (.int p3), .val (.long q4), .second, .val (.int p5), .val (.int (own_v0_0 p0)), .val (.int (own_v0_1 p0 p1)), .val (.int (own_v0_2 p0 p2)), .val (.int 1), .val (.double (FP.i2d p3)), .second, .val (.double (FP.l2d q4)), .second, .val (.ref bn127), .val (.ref bk131_0), .val (.ref bn150), .val (.ref bk204_0), .val (.double (own_j0_5 p0 p1 p2 p3)), .second, .val (.double (own_j0_6 p0 p1 p2 q4)), .second, .val (.ref bk260_0), .unset, .unset, .unset, .unset, .unset] [(.double 0)])) _
      refine XS.dstore Xk265.here hx rfl (hb hby at_262) rfl (l' := #[.val (.int p0), .val (.int p1), .val (.int p2), .val (.int p3), .val (.long q4), .second, .val (.int p5), .val (.int (own_v0_0 p0)), .val (.int (own_v0_1 p0 p1)), .val (.int (own_v0_2 p0 p2)), .val (.int 1), .val (.double (FP.i2d p3)), .second, .val (.double (FP.l2d q4)), .second, .val (.ref bn127), .val (.ref bk131_0), .val (.ref bn150), .val (.ref bk204_0), .val (.double (own_j0_5 p0 p1 p2 p3)), .second, .val (.double (own_j0_6 p0 p1 p2 q4)), .second, .val (.ref bk260_0), .val (.double 0), .second, .unset, .unset, .unset]) rfl ?_
      refine XS.dconst0 Xk265.here hx rfl (hb hby at_264) (v := (0 : UInt64)) (by decide +kernel) ?_
      refine XS.dstore Xk265.here hx rfl (hb hby at_265) rfl (l' := #[.val (.int p0), .val (.int p1), .val (.int p2), .val (.int p3), .val (.long q4), .second, .val (.int p5), .val (.int (own_v0_0 p0)), .val (.int (own_v0_1 p0 p1)), .val (.int (own_v0_2 p0 p2)), .val (.int 1), .val (.double (FP.i2d p3)), .second, .val (.double (FP.l2d q4)), .second, .val (.ref bn127), .val (.ref bk131_0), .val (.ref bn150), .val (.ref bk204_0), .val (.double (own_j0_5 p0 p1 p2 p3)), .second, .val (.double (own_j0_6 p0 p1 p2 q4)), .second, .val (.ref bk260_0), .val (.double 0), .second, .val (.double 0), .second, .unset]) rfl ?_
      refine XS.goto Xk265.here hx rfl (pc0 := 267) (pc' := 298) rfl (hb hby at_267) (by decide) (by decide) ?_
      refine XS.aload Xk265.here hx rfl (hb hby at_298) rfl rfl ?_
      refine XS.iload Xk265.here hx rfl (hb hby at_300) rfl ?_
      refine stk266.trans ?_
      show Steps p.tables e below (Tk266.setTop (mkF m 305 #[.val (.int p0), .val (.int p1), .val (.int p2), .val (.int p3), .val (.long q4), .second, .val (.int p5), .val (.int (own_v0_0 p0)), .val (.int (own_v0_1 p0 p1)), .val (.int (own_v0_2 p0 p2)), .val (.int 1), .val (.double (FP.i2d p3)), .second, .val (.double (FP.l2d q4)), .second, .val (.ref bn127), .val (.ref bk131_0), .val (.ref bn150), .val (.ref bk204_0), .val (.double (own_j0_5 p0 p1 p2 p3)), .second, .val (.double (own_j0_6 p0 p1 p2 q4)), .second, .val (.ref bk260_0), .val (.double 0), .second, .val (.double 0), .second, .unset] [(.ref bk266_0)])) _
      refine XS.astore Xk266.here hx rfl (hb hby at_305) rfl rfl (l' := #[.val (.int p0), .val (.int p1), .val (.int p2), .val (.int p3), .val (.long q4), .second, .val (.int p5), .val (.int (own_v0_0 p0)), .val (.int (own_v0_1 p0 p1)), .val (.int (own_v0_2 p0 p2)), .val (.int 1), .val (.double (FP.i2d p3)), .second, .val (.double (FP.l2d q4)), .second, .val (.ref bn127), .val (.ref bk131_0), .val (.ref bn150), .val (.ref bk204_0), .val (.double (own_j0_5 p0 p1 p2 p3)), .second, .val (.double (own_j0_6 p0 p1 p2 q4)), .second, .val (.ref bk260_0), .val (.double 0), .second, .val (.double 0), .second, .val (.ref bk266_0)]) rfl ?_
      refine XS.aload Xk266.here hx rfl (hb hby at_307) rfl rfl ?_
      refine XS.dload Xk266.here hx rfl (hb hby at_309) rfl ?_
      refine XS.dload Xk266.here hx rfl (hb hby at_311) rfl ?_
      refine stk273 _ ?_
      show Steps p.tables e below (Tk273.setTop (mkF m 316 #[.val (.int p0), .val (.int p1), .val (.int p2), .val (.int p3), .val (.long q4), .second, .val (.int p5), .val (.int (own_v0_0 p0)), .val (.int (own_v0_1 p0 p1)), .val (.int (own_v0_2 p0 p2)), .val (.int 1), .val (.double (FP.i2d p3)), .second, .val (.double (FP.l2d q4)), .second, .val (.ref bn127), .val (.ref bk131_0), .val (.ref bn150), .val (.ref bk204_0), .val (.double (own_j0_5 p0 p1 p2 p3)), .second, .val (.double (own_j0_6 p0 p1 p2 q4)), .second, .val (.ref bk260_0), .val (.double 0), .second, .val (.double 0), .second, .val (.ref bk266_0)] [(.int 1)])) _
      exact retN Xk273 hx (t := .boolean) Bd.returns (by simp) (hb hby at_316) hr
    · show own_Q0 Z p0 p1 p2 p3 q4 p5 h0 n0 _ Tk273.heap _
      rw [ek273]
      exact ⟨rfl, Nk273⟩
theorem own_n (x : Int32) : 1 ≤ (own_v0_0 x).toInt ∧ (own_v0_0 x).toInt ≤ 8 := by
  have h : (x &&& (7 : Int32)).toInt = x.toInt % 2 ^ 3 := Jvm.Kit.i32_mask _ _ (k := 3) (by decide) (by decide)
  have e : (1 : Int32).toInt = 1 := by decide
  unfold own_v0_0
  rw [Jvm.Kit.i32_add (by rw [e, h]; omega) (by rw [e, h]; omega), e, h]; omega
theorem own_mod {a b : Int32} (ha : 0 ≤ a.toInt) (hb : 0 < b.toInt) : 0 ≤ (a - (a / b) * b).toInt ∧ (a - (a / b) * b).toInt < b.toInt := by
  have l := a.toInt_lt
  have hd : (a / b).toInt = a.toInt / b.toInt := by rw [Jvm.Kit.i32_div (by omega), Int.tdiv_eq_ediv_of_nonneg ha]
  have q1 : a.toInt / b.toInt * b.toInt ≤ a.toInt := Int.ediv_mul_le _ (by omega)
  have q0 : 0 ≤ a.toInt / b.toInt * b.toInt := Int.mul_nonneg (Int.ediv_nonneg ha (by omega)) (by omega)
  have q2 : a.toInt < (a.toInt / b.toInt + 1) * b.toInt := Int.lt_ediv_add_one_mul_self _ hb
  rw [Int.add_mul, Int.one_mul] at q2
  have hm : (a / b * b).toInt = a.toInt / b.toInt * b.toInt := by rw [Jvm.Kit.i32_mul (by rw [hd]; omega) (by rw [hd]; omega), hd]
  rw [Jvm.Kit.i32_sub (by rw [hm]; omega) (by rw [hm]; omega), hm]; omega
theorem own_mx (x : Int32) : 0 ≤ (x &&& (2147483647 : Int32)).toInt := by
  rw [Jvm.Kit.i32_mask _ _ (k := 31) (by decide) (by decide)]; omega
theorem own_0i : (0 : Int32).toInt = 0 := by decide
theorem own_m (p0 p1 : Int32) : 0 ≤ (own_v0_1 p0 p1).toInt ∧ (own_v0_1 p0 p1).toInt < (own_v0_0 p0).toInt := own_mod (own_mx p1) (by have := own_n p0; omega)
theorem own_o (p0 p2 : Int32) : 0 ≤ (own_v0_2 p0 p2).toInt ∧ (own_v0_2 p0 p2).toInt < (own_v0_0 p0).toInt := own_mod (own_mx p2) (by have := own_n p0; omega)
theorem own_inr {j z : Int32} (h : 0 ≤ j.toInt ∧ j.toInt < z.toInt) : ¬ (j < 0) ∧ j < z := by
  rw [Int32.lt_iff_toInt_lt, Int32.lt_iff_toInt_lt, own_0i]; omega
theorem own_len (x : Int32) : ¬ ((own_v0_0 x) < 0) ∧ (own_v0_0 x).toNatClampNeg ≤ 8 := by
  have h := own_n x
  refine ⟨by rw [Int32.lt_iff_toInt_lt, own_0i]; omega, ?_⟩
  show (own_v0_0 x).toInt.toNat ≤ 8
  omega
theorem own_same {i j : Int32} (hi : 0 ≤ i.toInt) (hj : 0 ≤ j.toInt) : i.toNatClampNeg = j.toNatClampNeg ↔ i = j := by
  rw [← Int32.toInt_inj]
  show i.toInt.toNat = j.toInt.toNat ↔ _
  omega
theorem own_c5 : FP.Core.DFin (4602678819172646912 : UInt64) := by rw [FP.Core.fin_bits]; decide
theorem own_c9 : FP.Core.DFin (4606281698874543309 : UInt64) := by rw [FP.Core.fin_bits]; decide
theorem own_eq {a b : UInt64} (h : FP.Core.DFin b) (e : a = b) (o : CmpOp) : cmpValue (FP.dcmp a b) o = (0 : Int32) := by subst e; exact own_self h o
theorem own_u {f : Nat → UInt64} {i j : Int32} {v : UInt64} (hi : 0 ≤ i.toInt) (hj : 0 ≤ j.toInt) : (own_upd f j v) i.toNatClampNeg = if i = j then v else f i.toNatClampNeg := by
  unfold own_upd
  by_cases e : i = j
  · rw [if_pos e, if_pos ((own_same hi hj).mpr e)]
  · rw [if_neg e, if_neg (fun q => e ((own_same hi hj).mp q))]
theorem own_x_hz14 (p0 p1 p2 p3 : Int32) (q4 : Int64) (p5 : Int32) : (own_v0_0 p0) ≠ 0 := by
  intro h; have := own_n p0; rw [h, own_0i] at this; omega
theorem own_x_c55_len6 (p0 p1 p2 p3 : Int32) (q4 : Int64) (p5 : Int32) : (p5 &&& (1 : Int32)) = (0 : Int32) → ¬ ((own_v0_0 p0) < 0) ∧ (own_v0_0 p0).toNatClampNeg ≤ 8 := by
  intro _; exact own_len p0
theorem own_x_c64_in16 (p0 p1 p2 p3 : Int32) (q4 : Int64) (p5 : Int32) : (p5 &&& (1 : Int32)) = (0 : Int32) → ¬ ((own_v0_2 p0 p2) < 0) ∧ (own_v0_2 p0 p2) < (own_v0_0 p0) := by
  intro _; exact own_inr (own_o p0 p2)
theorem own_x_c77_hc51 (p0 p1 p2 p3 : Int32) (q4 : Int64) (p5 : Int32) : (p5 &&& (1 : Int32)) = (0 : Int32) → (cmpValue (FP.dcmp (own_v4_0 (own_v0_2 p0 p2) (own_cst (4602678819172646912 : UInt64))) (4602678819172646912 : UInt64)) .l) = (0 : Int32) := by
  intro _; exact own_eq own_c5 rfl _
theorem own_x_c77_hc61 (p0 p1 p2 p3 : Int32) (q4 : Int64) (p5 : Int32) : (p5 &&& (1 : Int32)) = (0 : Int32) → (cmpValue (FP.dcmp (own_v4_1 (own_v0_2 p0 p2) (own_cst (4606281698874543309 : UInt64))) (4606281698874543309 : UInt64)) .l) = (0 : Int32) := by
  intro _; exact own_eq own_c9 rfl _
theorem own_x_c137_in10 (p0 p1 p2 p3 : Int32) (q4 : Int64) (p5 : Int32) : (p5 &&& (1 : Int32)) = (0 : Int32) → ¬ ((own_v0_1 p0 p1) < 0) ∧ (own_v0_1 p0 p1) < (own_v0_0 p0) := by
  intro _; exact own_inr (own_m p0 p1)
theorem own_x_c155_hc51 (p0 p1 p2 p3 : Int32) (q4 : Int64) (p5 : Int32) : (p5 &&& (1 : Int32)) = (0 : Int32) → (cmpValue (FP.dcmp (own_v4_0 (own_v0_1 p0 p1) (own_upd (own_cst (4602678819172646912 : UInt64)) (own_v0_1 p0 p1) (FP.i2d p3))) (FP.i2d p3)) .l) = (0 : Int32) := by
  intro _; have hm := own_m p0 p1; have ho := own_o p0 p2; exact own_eq (FP.Core.i2d_fin p3) (by unfold own_v4_0; rw [own_u hm.1 hm.1, if_pos rfl]) _
theorem own_x_c155_hc61 (p0 p1 p2 p3 : Int32) (q4 : Int64) (p5 : Int32) : (p5 &&& (1 : Int32)) = (0 : Int32) → (cmpValue (FP.dcmp (own_v4_1 (own_v0_1 p0 p1) (own_upd (own_cst (4606281698874543309 : UInt64)) (own_v0_1 p0 p1) (FP.l2d q4))) (FP.l2d q4)) .l) = (0 : Int32) := by
  intro _; have hm := own_m p0 p1; have ho := own_o p0 p2; exact own_eq (FP.Core.l2d_fin q4) (by unfold own_v4_1; rw [own_u hm.1 hm.1, if_pos rfl]) _
theorem own_x_c313_hc51 (p0 p1 p2 p3 : Int32) (q4 : Int64) (p5 : Int32) : (p5 &&& (1 : Int32)) = (0 : Int32) → (cmpValue (FP.dcmp (own_v4_0 (own_v0_2 p0 p2) (own_upd (own_cst (4602678819172646912 : UInt64)) (own_v0_1 p0 p1) (FP.i2d p3))) (own_j0_3 p0 p1 p2 p3)) .l) = (0 : Int32) := by
  intro _; have hm := own_m p0 p1; have ho := own_o p0 p2
  refine own_eq ?_ ?_ _
  · unfold own_j0_3; split
    · exact (FP.Core.i2d_fin p3)
    · exact own_c5
  · unfold own_v4_0 own_j0_3; rw [own_u ho.1 hm.1]; rfl
theorem own_x_c313_hc61 (p0 p1 p2 p3 : Int32) (q4 : Int64) (p5 : Int32) : (p5 &&& (1 : Int32)) = (0 : Int32) → (cmpValue (FP.dcmp (own_v4_1 (own_v0_2 p0 p2) (own_upd (own_cst (4606281698874543309 : UInt64)) (own_v0_1 p0 p1) (FP.l2d q4))) (own_j0_4 p0 p1 p2 q4)) .l) = (0 : Int32) := by
  intro _; have hm := own_m p0 p1; have ho := own_o p0 p2
  refine own_eq ?_ ?_ _
  · unfold own_j0_4; split
    · exact (FP.Core.l2d_fin q4)
    · exact own_c9
  · unfold own_v4_1 own_j0_4; rw [own_u ho.1 hm.1]; rfl
theorem own_x_c55_len6_2 (p0 p1 p2 p3 : Int32) (q4 : Int64) (p5 : Int32) : ¬ ((p5 &&& (1 : Int32)) = (0 : Int32)) → ¬ ((own_v0_0 p0) < 0) ∧ (own_v0_0 p0).toNatClampNeg ≤ 8 := by
  intro _; exact own_len p0
theorem own_x_c64_in16_2 (p0 p1 p2 p3 : Int32) (q4 : Int64) (p5 : Int32) : ¬ ((p5 &&& (1 : Int32)) = (0 : Int32)) → ¬ ((own_v0_2 p0 p2) < 0) ∧ (own_v0_2 p0 p2) < (own_v0_0 p0) := by
  intro _; exact own_inr (own_o p0 p2)
theorem own_x_c77_hc51_2 (p0 p1 p2 p3 : Int32) (q4 : Int64) (p5 : Int32) : ¬ ((p5 &&& (1 : Int32)) = (0 : Int32)) → (cmpValue (FP.dcmp (own_v4_0 (own_v0_2 p0 p2) (own_cst (4602678819172646912 : UInt64))) (4602678819172646912 : UInt64)) .l) = (0 : Int32) := by
  intro _; exact own_eq own_c5 rfl _
theorem own_x_c77_hc61_2 (p0 p1 p2 p3 : Int32) (q4 : Int64) (p5 : Int32) : ¬ ((p5 &&& (1 : Int32)) = (0 : Int32)) → (cmpValue (FP.dcmp (own_v4_1 (own_v0_2 p0 p2) (own_cst (4606281698874543309 : UInt64))) (4606281698874543309 : UInt64)) .l) = (0 : Int32) := by
  intro _; exact own_eq own_c9 rfl _
theorem own_x_c137_in10_2 (p0 p1 p2 p3 : Int32) (q4 : Int64) (p5 : Int32) : ¬ ((p5 &&& (1 : Int32)) = (0 : Int32)) → ¬ ((own_v0_1 p0 p1) < 0) ∧ (own_v0_1 p0 p1) < (own_v0_0 p0) := by
  intro _; exact own_inr (own_m p0 p1)
theorem own_x_c155_hc51_2 (p0 p1 p2 p3 : Int32) (q4 : Int64) (p5 : Int32) : ¬ ((p5 &&& (1 : Int32)) = (0 : Int32)) → (cmpValue (FP.dcmp (own_v4_0 (own_v0_1 p0 p1) (own_upd (own_cst (4602678819172646912 : UInt64)) (own_v0_1 p0 p1) (FP.i2d p3))) (FP.i2d p3)) .l) = (0 : Int32) := by
  intro _; have hm := own_m p0 p1; have ho := own_o p0 p2; exact own_eq (FP.Core.i2d_fin p3) (by unfold own_v4_0; rw [own_u hm.1 hm.1, if_pos rfl]) _
theorem own_x_c155_hc61_2 (p0 p1 p2 p3 : Int32) (q4 : Int64) (p5 : Int32) : ¬ ((p5 &&& (1 : Int32)) = (0 : Int32)) → (cmpValue (FP.dcmp (own_v4_1 (own_v0_1 p0 p1) (own_upd (own_cst (4606281698874543309 : UInt64)) (own_v0_1 p0 p1) (FP.l2d q4))) (FP.l2d q4)) .l) = (0 : Int32) := by
  intro _; have hm := own_m p0 p1; have ho := own_o p0 p2; exact own_eq (FP.Core.l2d_fin q4) (by unfold own_v4_1; rw [own_u hm.1 hm.1, if_pos rfl]) _
theorem own_x_c248_hc51 (p0 p1 p2 p3 : Int32) (q4 : Int64) (p5 : Int32) : ¬ ((p5 &&& (1 : Int32)) = (0 : Int32)) → (cmpValue (FP.dcmp (own_v4_0 (own_v0_1 p0 p1) (own_upd (own_upd (own_cst (4602678819172646912 : UInt64)) (own_v0_1 p0 p1) (FP.i2d p3)) (own_v0_2 p0 p2) (own_v7_0 (own_v0_2 p0 p2) (own_cst 0)))) (own_j0_5 p0 p1 p2 p3)) .l) = (0 : Int32) := by
  intro _; have hm := own_m p0 p1; have ho := own_o p0 p2
  refine own_eq ?_ ?_ _
  · unfold own_j0_5; split
    · exact own_is_0.1
    · exact (FP.Core.i2d_fin p3)
  · unfold own_v4_0 own_j0_5; rw [own_u hm.1 ho.1, own_u hm.1 hm.1, if_pos rfl]
    by_cases e : own_v0_2 p0 p2 = own_v0_1 p0 p1
    · rw [if_pos e, if_pos e.symm]; rfl
    · rw [if_neg e, if_neg (fun q => e q.symm)]
theorem own_x_c248_hc61 (p0 p1 p2 p3 : Int32) (q4 : Int64) (p5 : Int32) : ¬ ((p5 &&& (1 : Int32)) = (0 : Int32)) → (cmpValue (FP.dcmp (own_v4_1 (own_v0_1 p0 p1) (own_upd (own_upd (own_cst (4606281698874543309 : UInt64)) (own_v0_1 p0 p1) (FP.l2d q4)) (own_v0_2 p0 p2) (own_v7_1 (own_v0_2 p0 p2) (own_cst 0)))) (own_j0_6 p0 p1 p2 q4)) .l) = (0 : Int32) := by
  intro _; have hm := own_m p0 p1; have ho := own_o p0 p2
  refine own_eq ?_ ?_ _
  · unfold own_j0_6; split
    · exact own_is_0.1
    · exact (FP.Core.l2d_fin q4)
  · unfold own_v4_1 own_j0_6; rw [own_u hm.1 ho.1, own_u hm.1 hm.1, if_pos rfl]
    by_cases e : own_v0_2 p0 p2 = own_v0_1 p0 p1
    · rw [if_pos e, if_pos e.symm]; rfl
    · rw [if_neg e, if_neg (fun q => e q.symm)]
theorem own_x_c313_hc51_2 (p0 p1 p2 p3 : Int32) (q4 : Int64) (p5 : Int32) : ¬ ((p5 &&& (1 : Int32)) = (0 : Int32)) → (cmpValue (FP.dcmp (own_v4_0 (own_v0_2 p0 p2) (own_upd (own_upd (own_cst (4602678819172646912 : UInt64)) (own_v0_1 p0 p1) (FP.i2d p3)) (own_v0_2 p0 p2) (own_v7_0 (own_v0_2 p0 p2) (own_cst 0)))) (0 : UInt64)) .l) = (0 : Int32) := by
  intro _; have hm := own_m p0 p1; have ho := own_o p0 p2; exact own_eq own_is_0.1 (by unfold own_v4_0; rw [own_u ho.1 ho.1, if_pos rfl]; rfl) _
theorem own_x_c313_hc61_2 (p0 p1 p2 p3 : Int32) (q4 : Int64) (p5 : Int32) : ¬ ((p5 &&& (1 : Int32)) = (0 : Int32)) → (cmpValue (FP.dcmp (own_v4_1 (own_v0_2 p0 p2) (own_upd (own_upd (own_cst (4606281698874543309 : UInt64)) (own_v0_1 p0 p1) (FP.l2d q4)) (own_v0_2 p0 p2) (own_v7_1 (own_v0_2 p0 p2) (own_cst 0)))) (0 : UInt64)) .l) = (0 : Int32) := by
  intro _; have hm := own_m p0 p1; have ho := own_o p0 p2; exact own_eq own_is_0.1 (by unfold own_v4_1; rw [own_u ho.1 ho.1, if_pos rfl]; rfl) _

set_option maxRecDepth 65536 in
set_option maxHeartbeats 40000000 in
theorem comes_1 {Post : Tables → Env → Array Value → State → Outcome → State → Prop} (hpost : ∀ tb e args s v u, (limb_1_1.after args s (.returned v) u = true ∧ limb_1_2.after args s (.returned v) u = true ∧ True) → FrameEnd s (.returned v) u (Jvm.fieldLocs frame_1_writes args s ++ Jvm.arrayLocs frame_1_arrays args s ++ Jvm.staticLocs frame_1_statics s) 48 192 → Post tb e args s (.returned v) u) :
    ArmFor flags0 classFile x code maxLocals ret World_1 tables_1 room_1 Calls_1 rest_1 Pre_1 Post := by
  intro l hfl _ _ p e ha hc hk s m args below hf hA hF happ hP
  obtain ⟨hcalls, hrest, hpre⟩ := hP
  obtain ⟨-, -, -, hnamed, -, -, -, hat⟩ := (Spec.applies_iff hf).mp happ
  obtain ⟨hg, hn⟩ := and_e (Cond.before_iff.mp (show (Jvm.Cond.and given_1 narrow_1).before args s = true from hpre))
  obtain ⟨g1a, g1b⟩ := and_e hg
  obtain ⟨g2a, g2b⟩ := and_e g1b
  obtain ⟨g3a, g3b⟩ := and_e g2b
  obtain ⟨g4a, g4b⟩ := and_e g3b
  obtain ⟨g5a, g5b⟩ := and_e g4b
  obtain ⟨g6a, g6b⟩ := and_e g5b
  obtain ⟨w0, w1, w2, w3, w4, w5, rfl⟩ : ∃ w0 w1 w2 w3 w4 w5 : Value, args = #[w0, w1, w2, w3, w4, w5] := by
    have hs : args.size = 6 := by simpa [Cond.value, given_1] using g1a
    obtain ⟨L⟩ := args
    match L, hs with
    | [w0, w1, w2, w3, w4, w5], _ => exact ⟨w0, w1, w2, w3, w4, w5, rfl⟩
  have hw := fun d (hd : d ∈ tables_1) => atoms_spec (ws := Jvm.Cond.code x code maxLocals ret :: tables_1) hat d (List.mem_cons_of_mem _ hd)
  obtain ⟨i0, ei0⟩ := is_v g2a
  obtain rfl : w0 = (.int i0) := Option.some.inj ei0
  obtain ⟨i1, ei1⟩ := is_v g3a
  obtain rfl : w1 = (.int i1) := Option.some.inj ei1
  obtain ⟨i2, ei2⟩ := is_v g4a
  obtain rfl : w2 = (.int i2) := Option.some.inj ei2
  obtain ⟨i3, ei3⟩ := is_v g5a
  obtain rfl : w3 = (.int i3) := Option.some.inj ei3
  obtain ⟨i4, ei4⟩ := isL_v g6a
  obtain rfl : w4 = (.long i4) := Option.some.inj ei4
  obtain ⟨i5, ei5⟩ := is_v g6b
  obtain rfl : w5 = (.int i5) := Option.some.inj ei5
  obtain ⟨n, o, h1, h2, h3, _, L, rfl, ⟨rfl, N⟩, hq⟩ := own_rm0 l s _ hw tables_1 i0 i1 i2 i3 i4 i5 s.heap s.heap.size (Nat.le_refl _) (by first | exact own_x_hz14 i0 i1 i2 i3 i4 i5 | exact own_x_hz14 i0) (by first | exact own_x_c55_len6 i0 i1 i2 i3 i4 i5 | exact own_x_c55_len6 i0 i5) (by first | exact own_x_c64_in16 i0 i1 i2 i3 i4 i5 | exact own_x_c64_in16 i0 i2 i5) (by first | exact own_x_c77_hc51 i0 i1 i2 i3 i4 i5 | exact own_x_c77_hc51 i0 i2 i5) (by first | exact own_x_c77_hc61 i0 i1 i2 i3 i4 i5 | exact own_x_c77_hc61 i0 i2 i5) (by first | exact own_x_c137_in10 i0 i1 i2 i3 i4 i5 | exact own_x_c137_in10 i0 i1 i5) (by first | exact own_x_c155_hc51 i0 i1 i2 i3 i4 i5 | exact own_x_c155_hc51 i0 i1 i3 i5) (by first | exact own_x_c155_hc61 i0 i1 i2 i3 i4 i5 | exact own_x_c155_hc61 i0 i1 i4 i5) (by first | exact own_x_c313_hc51 i0 i1 i2 i3 i4 i5 | exact own_x_c313_hc51 i0 i1 i2 i3 i5) (by first | exact own_x_c313_hc61 i0 i1 i2 i3 i4 i5 | exact own_x_c313_hc61 i0 i1 i2 i4 i5) (by first | exact own_x_c55_len6_2 i0 i1 i2 i3 i4 i5 | exact own_x_c55_len6_2 i0 i5) (by first | exact own_x_c64_in16_2 i0 i1 i2 i3 i4 i5 | exact own_x_c64_in16_2 i0 i2 i5) (by first | exact own_x_c77_hc51_2 i0 i1 i2 i3 i4 i5 | exact own_x_c77_hc51_2 i0 i2 i5) (by first | exact own_x_c77_hc61_2 i0 i1 i2 i3 i4 i5 | exact own_x_c77_hc61_2 i0 i2 i5) (by first | exact own_x_c137_in10_2 i0 i1 i2 i3 i4 i5 | exact own_x_c137_in10_2 i0 i1 i5) (by first | exact own_x_c155_hc51_2 i0 i1 i2 i3 i4 i5 | exact own_x_c155_hc51_2 i0 i1 i3 i5) (by first | exact own_x_c155_hc61_2 i0 i1 i2 i3 i4 i5 | exact own_x_c155_hc61_2 i0 i1 i4 i5) (by first | exact own_x_c248_hc51 i0 i1 i2 i3 i4 i5 | exact own_x_c248_hc51 i0 i1 i2 i3 i5) (by first | exact own_x_c248_hc61 i0 i1 i2 i3 i4 i5 | exact own_x_c248_hc61 i0 i1 i2 i4 i5) (by first | exact own_x_c313_hc51_2 i0 i1 i2 i3 i4 i5 | exact own_x_c313_hc51_2 i0 i1 i2 i3 i5) (by first | exact own_x_c313_hc61_2 i0 i1 i2 i3 i4 i5 | exact own_x_c313_hc61_2 i0 i1 i2 i4 i5) p e ha hc hk s m _ below hf ((Spec.applies_iff_loose hf).mp happ).1 ⟨rfl, State.Warmed39.refl s, rfl⟩ trivial
  refine ⟨n, _, h1, h2, h3, hpost _ _ _ _ _ _ ⟨Cond.after_iff.mpr rfl, Cond.after_iff.mpr (eq_i res_at (Term.int_eval (1)) rfl), trivial⟩ ⟨hq.1, hq.2.1, (hq.2.2.sift fun y hy => Or.inr (N y hy)).mono (by decide) (by decide)⟩⟩
theorem main_1_1 : Claimed_1_1 := comes_1 fun _ _ _ _ _ _ h hF => ⟨h.1, hF⟩
theorem main_1_2 : Claimed_1_2 := comes_1 fun _ _ _ _ _ _ h hF => ⟨h.2.1, hF⟩
end Jvm.Pilot.@@N@@
namespace Jvm.Pilot.@@N@@
open Jvm Jvm.ClassFile Sem Op Lib Jvm.Free Jvm.Stand Jvm.Pilot.@@N@@.Jvm.D
/-! MADE BY PROGRAM (witnessworld.py) out of the Statement's table words and the real class files: 14 classes; the members and pool entries that the words name. The judged class is class 1, her method 2. -/
namespace start1
open Jvm.ClassFile
def u (s : String) : CpInfo := .utf8 (stringToUtf16 s)
/-- a pool by its gaps: so many unusable entries, then the entry; so many at the end -/
def gap : Nat → List CpInfo → List CpInfo
  | 0, r => r
  | n + 1, r => .unusable :: gap n r
def poolList (es : List (Nat × CpInfo)) (last : Nat) : List CpInfo := es.foldr (fun e r => gap e.1 (e.2 :: r)) (gap last [])
def pool (es : List (Nat × CpInfo)) (last : Nat) : Array CpInfo := ⟨poolList es last⟩
def fileOf (pool : Array CpInfo) (this : Nat) (attrs : Array Attribute := #[]) (ms : Array MethodInfo := #[]) (fl : Nat := 33) (sup : Nat := 0) (ifs : Array Nat := #[]) (fds : Array FieldInfo := #[]) : ClassFile where
  minorVersion := 0
  majorVersion := 65
  constantPool := pool
  accessFlags := fl
  thisClass := this
  superClass := sup
  interfaces := ifs
  fields := fds
  methods := ms
  attributes := attrs
def plain (name : String) (sup : Option ClassId) : Class where
  name := name
  kind := .ordinary
  loader := none
  accessFlags := 33
  super := sup
  interfaces := #[]
  cf := none
  fields := #[]
  methods := #[]
  instanceTypes := #[]
  staticTypes := #[]
  resolved := #[]
  callSites := []
  init := .initialized
  statics := none
  mirror := none

def pool0 : Array CpInfo := pool [(5, u "<init>"), (0, u "()V"), (1, .class_ 10), (1, u "java/lang/Object")] 113

def k0c0 : Code := { maxStack := 0, maxLocals := 1, code := object_method_1_code, exceptionTable := #[], attributes := #[] }
def k0m0 : Method := { name := "<init>", desc := "()V", sig := { parameters := [], returnType := none }, accessFlags := 1, code := some k0c0 }
/-- java/lang/Object -/
def k0 : Class := { plain "java/lang/Object" none with
  accessFlags := 33
  interfaces := #[]
  cf := some (fileOf pool0 8 #[] #[{ accessFlags := 1, nameIndex := 5, descriptorIndex := 6, attributes := #[] }] 33 0 #[] #[])
  fields := #[]
  methods := #[k0m0]
  instanceTypes := #[]
  staticTypes := #[]
  resolved := Array.replicate 124 none
  statics := none }

def pool1 : Array CpInfo := pool [(2, .class_ 4), (1, u "java/lang/Object"), (0, u "<init>"), (0, u "()V"), (0, .integer 2147483647), (0, .class_ 9), (0, u "com/example/evoluta/evoluta/algorithms/de/Jde$SelfAdaptation"), (0, .methodref 8 11), (0, .nameAndType 5 12), (0, u "(I)V"), (0, .methodref 8 14), (0, .nameAndType 15 16), (0, u "parameters"), (0, u "(I)[[D"), (0, .double 4602678819172646912), (1, .double 4606281698874543309), (1, .methodref 22 23), (0, .class_ 24), (0, .nameAndType 25 26), (0, u "com/example/evoluta/evoluta/algorithms/de/SelfAdaptationParametersPinLaw"), (0, u "is"), (0, u "([[DDD)Z"), (0, .double 4598175219545276416), (1, .class_ 30), (0, u "[D"), (0, .methodref 8 32), (0, .nameAndType 33 34), (0, u "setParameters"), (0, u "(I[[D)V"), (0, .methodref 8 36), (0, .nameAndType 37 12), (0, u "trialReplaced"), (3, u "law"), (0, u "(IIIIJI)Z")] 8

def k1m0 : Method := { name := "<init>", desc := "()V", sig := { parameters := [], returnType := none }, accessFlags := 1, code := none }
def k1c1 : Code := { maxStack := 4, maxLocals := 5, code := method_2_code, exceptionTable := #[], attributes := #[] }
def k1m1 : Method := { name := "is", desc := "([[DDD)Z", sig := { parameters := [(.array (.array .double)), .double, .double], returnType := some .boolean }, accessFlags := 10, code := some k1c1 }
def k1c2 : Code := { maxStack := 8, maxLocals := 29, code := code, exceptionTable := #[], attributes := #[] }
def k1m2 : Method := { name := "law", desc := "(IIIIJI)Z", sig := { parameters := [.int, .int, .int, .int, .long, .int], returnType := some .boolean }, accessFlags := 9, code := some k1c2 }
/-- com/example/evoluta/evoluta/algorithms/de/SelfAdaptationParametersPinLaw -/
def k1 : Class := { plain "com/example/evoluta/evoluta/algorithms/de/SelfAdaptationParametersPinLaw" (some 0) with
  accessFlags := 49
  interfaces := #[]
  cf := some (fileOf pool1 22 #[] #[{ accessFlags := 1, nameIndex := 5, descriptorIndex := 6, attributes := #[] }, { accessFlags := 10, nameIndex := 25, descriptorIndex := 26, attributes := #[] }, { accessFlags := 9, nameIndex := 41, descriptorIndex := 42, attributes := #[] }] 49 2 #[] #[])
  fields := #[]
  methods := #[k1m0, k1m1, k1m2]
  instanceTypes := #[]
  staticTypes := #[]
  resolved := Array.replicate 51 none
  statics := none }

def pool2 : Array CpInfo := pool [(1, .class_ 2), (0, u "com/example/evoluta/evoluta/algorithms/de/ParameterControl"), (0, .class_ 4), (0, u "java/lang/Object")] 13

/-- com/example/evoluta/evoluta/algorithms/de/ParameterControl -/
def k2 : Class := { plain "com/example/evoluta/evoluta/algorithms/de/ParameterControl" (some 0) with
  accessFlags := 1536
  interfaces := #[]
  cf := some (fileOf pool2 1 #[] #[] 1536 3 #[] #[])
  fields := #[]
  methods := #[]
  instanceTypes := #[]
  staticTypes := #[]
  resolved := Array.replicate 18 none
  statics := none }

def pool3 : Array CpInfo := pool [(1, .class_ 2), (0, u "com/example/evoluta/evoluta/algorithms/de/Jde"), (24, .methodref 28 29), (0, .class_ 30), (0, .nameAndType 31 32), (0, u "java/lang/Object"), (0, u "<init>"), (0, u "()V"), (0, .fieldref 34 35), (0, .class_ 36), (0, .nameAndType 37 38), (0, u "com/example/evoluta/evoluta/algorithms/de/Jde$SelfAdaptation"), (0, u "scaleFactors"), (0, u "[D"), (0, .fieldref 34 40), (0, .nameAndType 41 38), (0, u "crossoverRates"), (0, .double 4602678819172646912), (1, .methodref 45 46), (0, .class_ 47), (0, .nameAndType 48 49), (0, u "java/util/Arrays"), (0, u "fill"), (0, u "([DD)V"), (0, .double 4606281698874543309), (1, .fieldref 34 53), (0, .nameAndType 54 38), (0, u "trialScaleFactors"), (0, .fieldref 34 56), (0, .nameAndType 57 38), (0, u "trialCrossoverRates"), (8, .class_ 38), (0, .class_ 68), (0, u "com/example/evoluta/evoluta/algorithms/de/ParameterControl"), (4, u "(I)V"), (6, u "trialReplaced"), (0, u "parameters"), (0, u "(I)[[D"), (0, u "setParameters"), (0, u "(I[[D)V")] 5

def k3c0 : Code := { maxStack := 3, maxLocals := 2, code := prog_8_method_2_code, exceptionTable := #[], attributes := #[] }
def k3m0 : Method := { name := "<init>", desc := "(I)V", sig := { parameters := [.int], returnType := none }, accessFlags := 0, code := some k3c0 }
def k3c1 : Code := { maxStack := 4, maxLocals := 2, code := prog_8_method_6_code, exceptionTable := #[], attributes := #[] }
def k3m1 : Method := { name := "trialReplaced", desc := "(I)V", sig := { parameters := [.int], returnType := none }, accessFlags := 1, code := some k3c1 }
def k3c2 : Code := { maxStack := 8, maxLocals := 2, code := prog_8_method_7_code, exceptionTable := #[], attributes := #[] }
def k3m2 : Method := { name := "parameters", desc := "(I)[[D", sig := { parameters := [.int], returnType := some (.array (.array .double)) }, accessFlags := 1, code := some k3c2 }
def k3c3 : Code := { maxStack := 4, maxLocals := 3, code := prog_8_method_8_code, exceptionTable := #[], attributes := #[] }
def k3m3 : Method := { name := "setParameters", desc := "(I[[D)V", sig := { parameters := [.int, (.array (.array .double))], returnType := none }, accessFlags := 1, code := some k3c3 }
/-- com/example/evoluta/evoluta/algorithms/de/Jde$SelfAdaptation -/
def k3 : Class := { plain "com/example/evoluta/evoluta/algorithms/de/Jde$SelfAdaptation" (some 0) with
  accessFlags := 48
  interfaces := #[2]
  cf := some (fileOf pool3 34 #[.nestHost 1] #[{ accessFlags := 0, nameIndex := 31, descriptorIndex := 73, attributes := #[] }, { accessFlags := 1, nameIndex := 80, descriptorIndex := 73, attributes := #[] }, { accessFlags := 1, nameIndex := 81, descriptorIndex := 82, attributes := #[] }, { accessFlags := 1, nameIndex := 83, descriptorIndex := 84, attributes := #[] }] 48 28 #[67] #[{ accessFlags := 18, nameIndex := 37, descriptorIndex := 38, attributes := #[] }, { accessFlags := 18, nameIndex := 41, descriptorIndex := 38, attributes := #[] }, { accessFlags := 18, nameIndex := 54, descriptorIndex := 38, attributes := #[] }, { accessFlags := 18, nameIndex := 57, descriptorIndex := 38, attributes := #[] }])
  fields := #[{ name := "scaleFactors", type := (.array .double), accessFlags := 18, slot := 0, constantValue := 0 }, { name := "crossoverRates", type := (.array .double), accessFlags := 18, slot := 1, constantValue := 0 }, { name := "trialScaleFactors", type := (.array .double), accessFlags := 18, slot := 2, constantValue := 0 }, { name := "trialCrossoverRates", type := (.array .double), accessFlags := 18, slot := 3, constantValue := 0 }]
  methods := #[k3m0, k3m1, k3m2, k3m3]
  instanceTypes := #[(.array .double), (.array .double), (.array .double), (.array .double)]
  staticTypes := #[]
  resolved := Array.replicate 90 none
  statics := none }

def pool4 : Array CpInfo := pool [(2, .class_ 4), (1, u "java/lang/Object"), (0, u "<init>"), (0, u "()V"), (7, .class_ 16), (1, u "java/util/Arrays"), (57, .class_ 76), (1, u "java/util/Arrays$NaturalOrder"), (36, .class_ 115), (1, u "java/util/Arrays$LegacyMergeSort"), (1, u "Z"), (257, .class_ 376), (0, u "java/util/Arrays$ArrayList"), (68, u "$assertionsDisabled"), (269, u "MIN_ARRAY_SORT_GRAN"), (0, u "I"), (2, u "INSERTIONSORT_THRESHOLD"), (120, u "fill"), (13, u "([DD)V"), (120, .class_ 976), (0, u "java/util/Arrays$ArrayItr")] 52

def k4m0 : Method := { name := "<init>", desc := "()V", sig := { parameters := [], returnType := none }, accessFlags := 2, code := none }
def k4c1 : Code := { maxStack := 4, maxLocals := 5, code := jdk_65_method_113_code, exceptionTable := #[], attributes := #[] }
def k4m1 : Method := { name := "fill", desc := "([DD)V", sig := { parameters := [(.array .double), .double], returnType := none }, accessFlags := 9, code := some k4c1 }
/-- java/util/Arrays -/
def k4 : Class := { plain "java/util/Arrays" (some 0) with
  accessFlags := 49
  interfaces := #[]
  cf := some (fileOf pool4 14 #[.nestMembers #[975, 375, 113, 74]] #[{ accessFlags := 2, nameIndex := 5, descriptorIndex := 6, attributes := #[] }, { accessFlags := 9, nameIndex := 840, descriptorIndex := 854, attributes := #[] }] 49 2 #[] #[{ accessFlags := 26, nameIndex := 715, descriptorIndex := 716, attributes := #[] }, { accessFlags := 26, nameIndex := 719, descriptorIndex := 716, attributes := #[] }, { accessFlags := 4120, nameIndex := 445, descriptorIndex := 117, attributes := #[] }])
  fields := #[{ name := "MIN_ARRAY_SORT_GRAN", type := .int, accessFlags := 26, slot := 0, constantValue := 0 }, { name := "INSERTIONSORT_THRESHOLD", type := .int, accessFlags := 26, slot := 1, constantValue := 0 }, { name := "$assertionsDisabled", type := .boolean, accessFlags := 4120, slot := 2, constantValue := 0 }]
  methods := #[k4m0, k4m1]
  instanceTypes := #[]
  staticTypes := #[.int, .int, .boolean]
  resolved := Array.replicate 1029 none
  statics := none }

def pool5 : Array CpInfo := pool [(1, u "java/lang/Cloneable"), (0, .class_ 1), (0, u "java/lang/Object"), (0, .class_ 3)] 3

/-- java/lang/Cloneable -/
def k5 : Class := { plain "java/lang/Cloneable" (some 0) with
  accessFlags := 1537
  interfaces := #[]
  cf := some (fileOf pool5 2 #[] #[] 1537 4 #[] #[])
  fields := #[]
  methods := #[]
  instanceTypes := #[]
  staticTypes := #[]
  resolved := Array.replicate 8 none
  statics := none }

def pool6 : Array CpInfo := pool [(1, u "java/io/Serializable"), (0, .class_ 1), (0, u "java/lang/Object"), (0, .class_ 3)] 3

/-- java/io/Serializable -/
def k6 : Class := { plain "java/io/Serializable" (some 0) with
  accessFlags := 1537
  interfaces := #[]
  cf := some (fileOf pool6 2 #[] #[] 1537 4 #[] #[])
  fields := #[]
  methods := #[]
  instanceTypes := #[]
  staticTypes := #[]
  resolved := Array.replicate 8 none
  statics := none }

/-- the primitive byte -/
def k7 : Class := { plain "byte" none with kind := .primitive 'B', accessFlags := 0x411 }
/-- [B -/
def k8 : Class := { plain "[B" (some 0) with kind := .array 7 .byte, interfaces := #[5, 6], accessFlags := 1041 }

/-- the primitive double -/
def k9 : Class := { plain "double" none with kind := .primitive 'D', accessFlags := 0x411 }
/-- [D -/
def k10 : Class := { plain "[D" (some 0) with kind := .array 9 .double, interfaces := #[5, 6], accessFlags := 1041 }

/-- the primitive int -/
def k11 : Class := { plain "int" none with kind := .primitive 'I', accessFlags := 0x411 }
/-- [I -/
def k12 : Class := { plain "[I" (some 0) with kind := .array 11 .int, interfaces := #[5, 6], accessFlags := 1041 }

/-- [[D -/
def k13 : Class := { plain "[[D" (some 0) with kind := .array 10 (.array .double), interfaces := #[5, 6], accessFlags := 1041 }

def heap : Heap := #[]
def classes : Array Class := #[k0, k1, k2, k3, k4, k5, k6, k7, k8, k9, k10, k11, k12, k13]
def interned : List (Array UInt16 × Addr) := []
def slotsUsed : Nat := 0
def theMethod : MethodId := ⟨1, 2⟩
def args0 : Array Value := #[.int 5, .int 6, .int 3, .int 1, .long 7, .int 9]
def aboutOver (below : List Frame) : State where
  vm := { classes := classes, interned := interned.toArray }
  heap := heap
  slotsUsed := slotsUsed
  threads := #[{ frames := .invoking theMethod args0 :: below }]
def below0 : List Frame := [.native { method := ⟨0, 0⟩, args := #[] }]
def about1 : State := aboutOver below0
def p0 : Program := .bare "" "" ""
def e0 : Env := launch0.env 0 0 0
theorem w_frames : about1.frames = Frame.invoking theMethod args0 :: below0 := rfl
set_option maxRecDepth 65536 in
theorem w_args : argsFit about1.vm theMethod args0 = true := by decide +kernel
set_option maxRecDepth 65536 in
theorem w_heap : heapFits about1 = true := by decide +kernel
set_option maxRecDepth 65536 in
theorem w_runnable : about1.curStatus? = some .runnable := by decide +kernel
set_option maxRecDepth 65536 in
theorem w_alone : about1.alone = true := by decide +kernel
set_option maxRecDepth 65536 in
theorem w_named : about1.methodNamed? x = some theMethod := by decide +kernel
set_option maxRecDepth 65536 in
theorem w_hears : about1.hears theMethod below0 = true := by decide +kernel
set_option maxRecDepth 65536 in
theorem w_ripe : about1.ripe theMethod args0 below0 = true := by decide +kernel
theorem w_running : about1.status = .running := rfl
set_option maxRecDepth 65536 in
theorem w_room : about1.hasRoom e0.platform room_1 = true :=
  launch0.hasRoom_least _ room_1 (by decide +kernel) (by decide +kernel) (by decide +kernel) (by decide +kernel) (by decide +kernel) (by decide +kernel)
theorem allAtoms_all (ts : List Jvm.Cond) (a : Array Jvm.Value) (st : Jvm.State) : (allAtoms ts).before a st = ts.all (fun c => c.before a st) := by
  induction ts with
  | nil => rfl
  | cons c t ih =>
    show (Jvm.Cond.and c (allAtoms t)).before a st = _
    rw [Jvm.Cond.before_and, ih, List.all_cons]
def words1 : List Jvm.Cond := Jvm.Cond.code x code maxLocals ret :: tables_1
/-- a 'code' word, met by the world's own term for the bytes: nothing is compared byte by byte -/
theorem code_word {y : MethodName} {bytes : ByteArray} {mx : Nat} {rt : Option FieldType} {a : Array Value} {s : State} {m : MethodId} {meth : Method} {c : Code} (h1 : s.methodNamed? y = some m) (h2 : s.vm.method? m = some meth) (h3 : meth.code = some c) (h4 : c.code = bytes)
    (h5 : (c.maxLocals == mx && c.exceptionTable.isEmpty && decide (c.maxStack ≤ mostOperands) && decide (meth.sig.returnType = rt) && !meth.locks && decide (parseMethodDescriptor y.desc = some meth.sig)) = true) : (Jvm.Cond.code y bytes mx rt).before a s = true := by
  simp only [Bool.and_eq_true, beq_iff_eq, Bool.not_eq_true', decide_eq_true_eq] at h5
  obtain ⟨⟨⟨⟨⟨g1, g2⟩, g3⟩, g4⟩, g5⟩, g6⟩ := h5
  simp [Cond.before, Cond.holds, Cond.value, h1, h2, h3, h4, g1, g2, g3, g4, g5, g6]
def isCode : Jvm.Cond → Bool
  | .code _ _ _ _ => true
  | _ => false
theorem all_split {L : List Jvm.Cond} {P : Jvm.Cond → Bool} (h1 : L.all (fun c => isCode c || P c) = true) (h2 : ∀ c ∈ L.filter isCode, P c = true) : L.all P = true := by
  refine List.all_eq_true.mpr fun c hc => ?_
  have h := List.all_eq_true.mp h1 c hc
  rcases Bool.eq_false_or_eq_true (isCode c) with hi | hi
  · exact h2 c (List.mem_filter.mpr ⟨hc, hi⟩)
  · simpa [hi] using h
set_option maxRecDepth 65536 in
theorem w_c0 : (Jvm.Cond.code x code maxLocals ret).before args0 about1 = true := code_word (m := ⟨1, 2⟩) (meth := k1m2) (c := k1c2) (by decide +kernel) rfl rfl rfl (by decide +kernel)
set_option maxRecDepth 65536 in
theorem w_c1 : (Jvm.Cond.code ({ cls := "com/example/evoluta/evoluta/algorithms/de/Jde$SelfAdaptation", name := "<init>", desc := "(I)V" } : Jvm.MethodName) prog_8_method_2_code (2 : Nat) (Option.none : Option Jvm.ClassFile.FieldType)).before args0 about1 = true := code_word (m := ⟨3, 0⟩) (meth := k3m0) (c := k3c0) (by decide +kernel) rfl rfl rfl (by decide +kernel)
set_option maxRecDepth 65536 in
theorem w_c2 : (Jvm.Cond.code ({ cls := "java/lang/Object", name := "<init>", desc := "()V" } : Jvm.MethodName) object_method_1_code (1 : Nat) (Option.none : Option Jvm.ClassFile.FieldType)).before args0 about1 = true := code_word (m := ⟨0, 0⟩) (meth := k0m0) (c := k0c0) (by decide +kernel) rfl rfl rfl (by decide +kernel)
set_option maxRecDepth 65536 in
theorem w_c3 : (Jvm.Cond.code ({ cls := "java/util/Arrays", name := "fill", desc := "([DD)V" } : Jvm.MethodName) jdk_65_method_113_code (5 : Nat) (Option.none : Option Jvm.ClassFile.FieldType)).before args0 about1 = true := code_word (m := ⟨4, 1⟩) (meth := k4m1) (c := k4c1) (by decide +kernel) rfl rfl rfl (by decide +kernel)
set_option maxRecDepth 65536 in
theorem w_c4 : (Jvm.Cond.code ({ cls := "com/example/evoluta/evoluta/algorithms/de/Jde$SelfAdaptation", name := "parameters", desc := "(I)[[D" } : Jvm.MethodName) prog_8_method_7_code (2 : Nat) (Option.some (Jvm.ClassFile.FieldType.array (Jvm.ClassFile.FieldType.array Jvm.ClassFile.FieldType.double)))).before args0 about1 = true := code_word (m := ⟨3, 2⟩) (meth := k3m2) (c := k3c2) (by decide +kernel) rfl rfl rfl (by decide +kernel)
set_option maxRecDepth 65536 in
theorem w_c5 : (Jvm.Cond.code ({ cls := "com/example/evoluta/evoluta/algorithms/de/SelfAdaptationParametersPinLaw", name := "is", desc := "([[DDD)Z" } : Jvm.MethodName) method_2_code (5 : Nat) (Option.some Jvm.ClassFile.FieldType.boolean)).before args0 about1 = true := code_word (m := ⟨1, 1⟩) (meth := k1m1) (c := k1c1) (by decide +kernel) rfl rfl rfl (by decide +kernel)
set_option maxRecDepth 65536 in
theorem w_c6 : (Jvm.Cond.code ({ cls := "com/example/evoluta/evoluta/algorithms/de/Jde$SelfAdaptation", name := "setParameters", desc := "(I[[D)V" } : Jvm.MethodName) prog_8_method_8_code (3 : Nat) (Option.none : Option Jvm.ClassFile.FieldType)).before args0 about1 = true := code_word (m := ⟨3, 3⟩) (meth := k3m3) (c := k3c3) (by decide +kernel) rfl rfl rfl (by decide +kernel)
set_option maxRecDepth 65536 in
theorem w_c7 : (Jvm.Cond.code ({ cls := "com/example/evoluta/evoluta/algorithms/de/Jde$SelfAdaptation", name := "trialReplaced", desc := "(I)V" } : Jvm.MethodName) prog_8_method_6_code (2 : Nat) (Option.none : Option Jvm.ClassFile.FieldType)).before args0 about1 = true := code_word (m := ⟨3, 1⟩) (meth := k3m1) (c := k3c1) (by decide +kernel) rfl rfl rfl (by decide +kernel)
def codes1 : List Jvm.Cond := [Jvm.Cond.code x code maxLocals ret, Jvm.Cond.code ({ cls := "com/example/evoluta/evoluta/algorithms/de/Jde$SelfAdaptation", name := "<init>", desc := "(I)V" } : Jvm.MethodName) prog_8_method_2_code (2 : Nat) (Option.none : Option Jvm.ClassFile.FieldType), Jvm.Cond.code ({ cls := "java/lang/Object", name := "<init>", desc := "()V" } : Jvm.MethodName) object_method_1_code (1 : Nat) (Option.none : Option Jvm.ClassFile.FieldType), Jvm.Cond.code ({ cls := "java/util/Arrays", name := "fill", desc := "([DD)V" } : Jvm.MethodName) jdk_65_method_113_code (5 : Nat) (Option.none : Option Jvm.ClassFile.FieldType), Jvm.Cond.code ({ cls := "com/example/evoluta/evoluta/algorithms/de/Jde$SelfAdaptation", name := "parameters", desc := "(I)[[D" } : Jvm.MethodName) prog_8_method_7_code (2 : Nat) (Option.some (Jvm.ClassFile.FieldType.array (Jvm.ClassFile.FieldType.array Jvm.ClassFile.FieldType.double))), Jvm.Cond.code ({ cls := "com/example/evoluta/evoluta/algorithms/de/SelfAdaptationParametersPinLaw", name := "is", desc := "([[DDD)Z" } : Jvm.MethodName) method_2_code (5 : Nat) (Option.some Jvm.ClassFile.FieldType.boolean), Jvm.Cond.code ({ cls := "com/example/evoluta/evoluta/algorithms/de/Jde$SelfAdaptation", name := "setParameters", desc := "(I[[D)V" } : Jvm.MethodName) prog_8_method_8_code (3 : Nat) (Option.none : Option Jvm.ClassFile.FieldType), Jvm.Cond.code ({ cls := "com/example/evoluta/evoluta/algorithms/de/Jde$SelfAdaptation", name := "trialReplaced", desc := "(I)V" } : Jvm.MethodName) prog_8_method_6_code (2 : Nat) (Option.none : Option Jvm.ClassFile.FieldType)]
set_option maxRecDepth 65536 in
theorem codes_eq : words1.filter isCode = codes1 := rfl
theorem w_codes : ∀ c ∈ words1.filter isCode, c.before args0 about1 = true := by
  rw [codes_eq]
  intro c hc
  simp only [codes1, List.mem_cons, List.not_mem_nil, or_false] at hc
  rcases hc with rfl | rfl | rfl | rfl | rfl | rfl | rfl | rfl
  · exact w_c0
  · exact w_c1
  · exact w_c2
  · exact w_c3
  · exact w_c4
  · exact w_c5
  · exact w_c6
  · exact w_c7
set_option maxRecDepth 65536 in
theorem w_t1 : (words1.take 24).all (fun c => isCode c || c.before args0 about1) = true := by decide +kernel
set_option maxRecDepth 65536 in
theorem w_t2 : ((words1.drop 24).take 24).all (fun c => isCode c || c.before args0 about1) = true := by decide +kernel
set_option maxRecDepth 65536 in
theorem w_t3 : ((words1.drop 24).drop 24).all (fun c => isCode c || c.before args0 about1) = true := by decide +kernel
theorem w_tables : (allAtoms (Jvm.Cond.code x code maxLocals ret :: tables_1)).before args0 about1 = true := by
  rw [allAtoms_all]
  show words1.all (fun c => c.before args0 about1) = true
  refine all_split ?_ w_codes
  rw [← List.take_append_drop 24 words1, List.all_append, w_t1, ← List.take_append_drop 24 (words1.drop 24), List.all_append, w_t2, w_t3]
  rfl
set_option maxRecDepth 65536 in
theorem w_case : (Jvm.Cond.and given_1 narrow_1).before args0 about1 = true := by decide +kernel
theorem w_applies : (headSpec (Jvm.Cond.code x code maxLocals ret :: tables_1) room_1).applies x e0.platform about1 = true :=
  (Spec.applies_iff w_frames).mpr ⟨w_running, w_runnable, w_alone, w_named, w_hears, w_ripe, w_room, w_tables⟩
theorem atStart : AtStart classFile x code maxLocals ret World_1 tables_1 room_1 Calls_1 rest_1 Pre_1 launch0 p0 e0 about1 theMethod args0 below0 :=
  ⟨lists_1, trivial, launch0.admits_env _ _ _, launch0.least_env, fairChoices_fair.cas, fairChoices_fair.clock, w_frames, w_args, w_heap, w_applies, trivial, trivial, w_case⟩
end start1
theorem witness_1 : WitnessClaimed_1 := ⟨start1.p0, start1.e0, start1.about1, start1.theMethod, start1.args0, start1.below0, start1.atStart⟩
end Jvm.Pilot.@@N@@
