import JvmDerived
import JvmDerived.Pilot.@@N@@Statement
import JvmDerived.Pilot.@@N@@Code
@@BLOCK:NumsL.lean.txt@@
set_option linter.unusedVariables false
set_option linter.unusedSimpArgs false
namespace Jvm.RoadKit
open Sem ClassFile Op Lib Jvm.Stand Jvm.Free Jvm.LawKit
section New
variable {p : Program} {l : Launch} {e : Env} {R : Room} {s : State} {m : MethodId} {args : Array Value} {below : List Frame} {meth : Method} {c : Code} {T : State} {locs : List Loc} {cells slots : Nat}
theorem retI (X : Stand p l e R s m args below meth c T locs cells slots) (hx : p.tables.exec = Jvm.exec) {pc : Nat} {Ls : Array Slot} {z : Int32} {rest : List Value} (hret : meth.sig.returnType = some .int) (hd : decode c.code pc = .ok (.ireturn, 1)) {fs : List Frame}
    (hl : ∀ (f : JFrame) (acts : List Action), f.method = m → f.locked = none → f.entered = [] → (doReturn e (T.setTop f) acts (some (.int z))).1 = T.setFrames fs) : Steps p.tables e below (T.setTop (mkF m pc Ls (.int z :: rest))) (T.setFrames fs) := by
  have hm' : T.vm.method? m = some meth := X.method'
  have hn : narrow .int (.int z) = .int z := rfl
  show Steps p.tables e below (T.setTop { method := m, pc := pc, locals := Ls, stack := _ :: rest, locked := none }) _
  jvm_step X.here [X.here.top, hx, hd, hm', hret, hn]
  first | (intro acts; rw [hl _ acts rfl rfl rfl]) | rw [hl _ _ rfl rfl rfl]
  exact Steps.refl _
theorem own_retD (X : Stand p l e R s m args below meth c T locs cells slots) (hx : p.tables.exec = Jvm.exec) {pc : Nat} {Ls : Array Slot} {z : UInt64} {rest : List Value} (hret : meth.sig.returnType = some .double) (hd : decode c.code pc = .ok (.dreturn, 1)) {fs : List Frame}
    (hl : ∀ (f : JFrame) (acts : List Action), f.method = m → f.locked = none → f.entered = [] → (doReturn e (T.setTop f) acts (some (.double z))).1 = T.setFrames fs) : Steps p.tables e below (T.setTop (mkF m pc Ls (.double z :: rest))) (T.setFrames fs) := by
  have hm' : T.vm.method? m = some meth := X.method'
  have hn : narrow .double (.double z) = .double z := rfl
  show Steps p.tables e below (T.setTop { method := m, pc := pc, locals := Ls, stack := _ :: rest, locked := none }) _
  jvm_step X.here [X.here.top, hx, hd, hm', hret, hn]
  first | (intro acts; rw [hl _ acts rfl rfl rfl]) | rw [hl _ _ rfl rfl rfl]
  exact Steps.refl _
theorem own_mvM {Z s : State} {a0 args : Array Value} {own host : String} {y : MethodName} {index : Nat} (hZ : Z.Warmed39 s.vm) (w : (Cond.methodLinkNest own index y host).before a0 Z = true) : (Cond.methodLinkNest own index y host).before args s = true := (Cond.methodLinkNest_wide hZ w :)
theorem own_selP {Z s : State} {a0 args : Array Value} {y : MethodName} {n : Nat} (hZ : Z.Warmed39 s.vm) (wi : (Cond.instantiable y.cls n).before a0 Z = true) (wp : (Cond.privateMethod y).before a0 Z = true) (wm : (Cond.instanceMethod y).before a0 Z = true) (hy : y.cls ≠ "java/lang/invoke/MethodHandle" ∧ y.cls ≠ "java/lang/invoke/VarHandle") : (Cond.selects y.cls y y).before args s = true := by
  obtain ⟨c, k, hc, hk, -, hflags, -⟩ := Cond.instantiable_spec (mvT (args := args) hZ wi)
  have hitf : k.isInterface = false := by
    cases hi : k.isInterface
    · rfl
    · simp [hi] at hflags
  exact selects_self_of_private hc hk hitf (Cond.privateMethod_at (mvP hZ wp (args := args))) (mvT hZ wm) hy
end New
end Jvm.RoadKit
namespace Jvm.Pilot.@@N@@
open Jvm Jvm.ClassFile Sem Op Lib Jvm.Free Jvm.Stand Jvm.LawKit Jvm.RoadKit Bundle Jvm.Free.Fl Jvm.Pilot.@@N@@.Jvm.D
theorem own_W {a0 : Array Value} {Z : State} (hw : ∀ d ∈ tables_1, d.before a0 Z = true) (i : Nat) {d : Jvm.Cond} (h : tables_1[i]? = some d) : d.before a0 Z = true := hw _ (List.mem_of_getElem? h)
/-! my own laws on doubles: a result is a rounding of its exact value (monotone), exactness, the order -/
section OwnFloat
open Jvm.FP Jvm.FP.Core
/-- the value in units of 2^-1074 -/
def own_zv (a : UInt64) : Int := Core.zval Core.b64 (Core.val64 a)
abbrev own_U : Int := (Core.one64 : Int)
theorem own_U_pos : 0 < own_U := Int.natCast_pos.mpr Core.one64_pos
/-- r is N / D, rounded, as far as the order goes -/
def own_rnd (N D : Int) (r : UInt64) : Prop :=
  Core.val64 r ≠ .nan ∧ (∀ V, Core.val64 V ≠ .nan → own_zv V * D ≤ N → own_zv V ≤ own_zv r) ∧ (∀ V, Core.val64 V ≠ .nan → N ≤ own_zv V * D → own_zv r ≤ own_zv V)
theorem own_fin_ne {a : UInt64} (h : Core.DFin a) : Core.val64 a ≠ .nan := h.ne_nan
theorem own_pow0 : (2 : Nat) ^ (Core.b64.qmin - Core.b64.qmin).toNat = 1 := by rw [Int.sub_self]; rfl
theorem own_rnd_of_round {x : UInt64} {sg : Bool} {n : Nat} {e e0 : Int} (hx : Core.val64 x = Core.round Core.b64 (.fin sg n e)) (h0 : e0 ≤ Core.b64.qmin) (h0e : e0 ≤ e) :
    own_rnd (Core.signed sg (Core.inUnits n e e0)) (((2 ^ (Core.b64.qmin - e0).toNat : Nat) : Int)) x := by
  refine ⟨?_, fun V hV h => ?_, fun V hV h => ?_⟩
  · rw [hx]; intro q; have := Core.round_nan.mp q; cases this
  · have := Core.zval_round_ge Core.good_b64 (s := sg) (c := n) (q := e) (e0 := e0) (V := Core.val64 V) (Core.val64_fits V) hV h0 h0e h
    unfold own_zv; rw [hx]; exact this
  · have := Core.zval_round_le Core.good_b64 (s := sg) (c := n) (q := e) (e0 := e0) (V := Core.val64 V) (Core.val64_fits V) hV h0 h0e h
    unfold own_zv; rw [hx]; exact this
theorem own_dadd_rnd {a b : UInt64} (ha : Core.DFin a) (hb : Core.DFin b) : own_rnd (own_zv a + own_zv b) 1 (FP.dadd a b) := by
  obtain ⟨s, c, q, ea⟩ := ha
  obtain ⟨t, d, r, eb⟩ := hb
  have fa := Core.val64_fits a; have fb := Core.val64_fits b
  rw [ea] at fa; rw [eb] at fb
  obtain ⟨sg, n, e, h1, h2, h3⟩ := Core.sum_units fa fb
  have hv : Core.val64 (FP.dadd a b) = Core.round Core.b64 (.fin sg n e) := by
    show Core.val64 (Core.dadd a b) = _
    rw [Core.val64_dadd, ea, eb, h1]
  have := own_rnd_of_round hv (Int.le_refl _) h2
  rw [h3, own_pow0] at this
  unfold own_zv; rw [ea, eb]; exact this
theorem own_zv_dneg (a : UInt64) : own_zv (Core.dneg a) = -own_zv a := by
  unfold own_zv; rw [Core.val64_dneg, Core.zval_negate]
theorem own_fin_dneg {a : UInt64} (ha : Core.DFin a) : Core.DFin (Core.dneg a) := by
  obtain ⟨s, c, q, ea⟩ := ha
  exact ⟨!s, c, q, by rw [Core.val64_dneg, ea]; rfl⟩
theorem own_dneg_zv {a : UInt64} (ha : Core.DFin a) : Core.DFin (FP.dneg a) ∧ own_zv (FP.dneg a) = -own_zv a := by
  rw [FP.dneg_core ha.notNaN]; exact ⟨own_fin_dneg ha, own_zv_dneg a⟩
theorem own_dsub_rnd {a b : UInt64} (ha : Core.DFin a) (hb : Core.DFin b) : own_rnd (own_zv a - own_zv b) 1 (FP.dsub a b) := by
  have h := own_dadd_rnd ha (own_fin_dneg hb)
  rw [own_zv_dneg] at h
  have e : FP.dsub a b = FP.dadd a (Core.dneg b) := Core.dsub_eq a b
  rw [e, Int.sub_eq_add_neg]; exact h
theorem own_dmul_rnd {a b : UInt64} (ha : Core.DFin a) (hb : Core.DFin b) : own_rnd (own_zv a * own_zv b) own_U (FP.dmul a b) := by
  obtain ⟨s, c, q, ea⟩ := ha
  obtain ⟨t, d, r, eb⟩ := hb
  have fa := Core.val64_fits a; have fb := Core.val64_fits b
  rw [ea] at fa; rw [eb] at fb
  obtain ⟨h1, h2, h3⟩ := Core.product_units fa fb
  have hv : Core.val64 (FP.dmul a b) = Core.round Core.b64 (.fin (s != t) (c * d) (q + r)) := by
    show Core.val64 (Core.dmul a b) = _
    rw [Core.val64_dmul, ea, eb, h1]
  have hq := Core.qmin_neg Core.good_b64
  have := own_rnd_of_round (e0 := 2 * Core.b64.qmin) hv (by omega) h2
  rw [h3, Core.signed_xor, show Core.b64.qmin - 2 * Core.b64.qmin = -Core.b64.qmin by omega, Core.pow_qmin64] at this
  unfold own_zv; rw [ea, eb]; exact this
theorem own_ddiv_rnd {a b : UInt64} (ha : Core.DFin a) (hb : Core.DFin b) (hz : own_zv b ≠ 0) : own_rnd (if 0 < own_zv b then own_zv a * own_U else -(own_zv a * own_U)) (own_zv b).natAbs (FP.ddiv a b) := by
  obtain ⟨s, c, q, ea⟩ := ha
  obtain ⟨t, d, r, eb⟩ := hb
  have fa := Core.val64_fits a; have fb := Core.val64_fits b
  rw [ea] at fa; rw [eb] at fb
  have hq1 := fa.2.1; have hq2 := fb.2.1
  have hqm := Core.qmin_neg Core.good_b64
  have zb : own_zv b = Core.signed t (Core.inUnits d r Core.b64.qmin) := by unfold own_zv; rw [eb]; rfl
  have za : own_zv a = Core.signed s (Core.inUnits c q Core.b64.qmin) := by unfold own_zv; rw [ea]; rfl
  have d0 : d ≠ 0 := fun h => hz (by rw [zb, h]; unfold Core.inUnits; rw [Nat.zero_mul]; exact Core.signed_zero t)
  have hB : 0 < Core.inUnits d r Core.b64.qmin := Nat.mul_pos (Nat.pos_of_ne_zero d0) (Nat.two_pow_pos _)
  have hv : Core.val64 (FP.ddiv a b) = Core.roundRatio Core.b64 (s != t) c d (q - r) := by
    show Core.val64 (Core.ddiv a b) = _
    rw [Core.val64_ddiv, ea, eb]; show (if d = 0 then _ else _) = _; rw [if_neg d0]
  have e1 : Core.inUnits c (q - r) (Core.b64.qmin - (r - Core.b64.qmin)) = Core.inUnits c q Core.b64.qmin * Core.one64 := by
    unfold Core.inUnits
    rw [← Core.pow_qmin64, Nat.mul_assoc, ← Nat.pow_add, show (q - r - (Core.b64.qmin - (r - Core.b64.qmin))).toNat = (q - Core.b64.qmin).toNat + (-Core.b64.qmin).toNat by omega]
  have e2 : ∀ v : Nat, v * 2 ^ (Core.b64.qmin - (Core.b64.qmin - (r - Core.b64.qmin))).toNat * d = v * Core.inUnits d r Core.b64.qmin := fun v => by
    unfold Core.inUnits
    rw [show Core.b64.qmin - (Core.b64.qmin - (r - Core.b64.qmin)) = r - Core.b64.qmin by omega, Nat.mul_assoc, Nat.mul_comm (2 ^ _) d]
  have hle : ∀ V : Core.Datum, Core.fits Core.b64 V → V ≠ .nan → Core.inUnits c q Core.b64.qmin * Core.one64 ≤ Core.zmag Core.b64 V * Core.inUnits d r Core.b64.qmin → Core.zmag Core.b64 (Core.roundRatio Core.b64 (s != t) c d (q - r)) ≤ Core.zmag Core.b64 V := fun V hV hn h =>
    Core.zmag_roundRatio_le Core.good_b64 (e0 := Core.b64.qmin - (r - Core.b64.qmin)) (Nat.pos_of_ne_zero d0) hV hn (by omega) (by omega) (by rw [e1, e2]; exact h)
  have hge : ∀ V : Core.Datum, Core.fits Core.b64 V → V ≠ .nan → Core.zmag Core.b64 V * Core.inUnits d r Core.b64.qmin ≤ Core.inUnits c q Core.b64.qmin * Core.one64 → Core.zmag Core.b64 V ≤ Core.zmag Core.b64 (Core.roundRatio Core.b64 (s != t) c d (q - r)) := fun V hV hn h =>
    Core.zmag_roundRatio_ge Core.good_b64 (e0 := Core.b64.qmin - (r - Core.b64.qmin)) (Nat.pos_of_ne_zero d0) hV (by omega) (by omega) (by rw [e1, e2]; exact h)
  have zr : own_zv (FP.ddiv a b) = Core.signed (s != t) (Core.zmag Core.b64 (Core.roundRatio Core.b64 (s != t) c d (q - r))) := by
    unfold own_zv; rw [hv]; unfold Core.zval; rw [Core.sgn_roundRatio]
  have hN : (if 0 < own_zv b then own_zv a * own_U else -(own_zv a * own_U)) = Core.signed (s != t) (Core.inUnits c q Core.b64.qmin * Core.one64) := by
    rw [zb, za, ← Core.signed_mul]
    cases s <;> cases t <;> simp only [Core.signed, if_true, if_false, Bool.false_eq_true, bne_self_eq_false, Bool.true_bne, Bool.false_bne, Bool.not_false, Bool.not_true] <;> split <;> omega
  have hD : ((own_zv b).natAbs : Int) = (Core.inUnits d r Core.b64.qmin : Nat) := by rw [zb, Core.natAbs_signed]
  have hzz : ∀ v : Nat, v * Core.inUnits d r Core.b64.qmin = 0 → v = 0 := fun v h => by rcases Nat.mul_eq_zero.mp h with h | h <;> omega
  rw [hN, hD]
  refine ⟨by rw [hv]; exact Core.roundRatio_ne_nan _ _ _ _ _, fun V hV h => ?_, fun V hV h => ?_⟩
  all_goals
    have h1 := hle _ (Core.val64_fits V) hV; have h2 := hge _ (Core.val64_fits V) hV; have h3 := hzz (Core.zmag Core.b64 (Core.val64 V))
    rw [zr]
    rw [show own_zv V = Core.signed (Core.sgn (Core.val64 V)) (Core.zmag Core.b64 (Core.val64 V)) from rfl] at h ⊢
    rw [← Core.signed_mul] at h
    generalize Core.zmag Core.b64 (Core.val64 V) * Core.inUnits d r Core.b64.qmin = vP at *
    generalize Core.inUnits c q Core.b64.qmin * Core.one64 = A at *
    generalize Core.sgn (Core.val64 V) = tV at *
    generalize (s != t) = st at *
    cases st <;> cases tV <;> simp only [Core.signed, if_true, Bool.false_eq_true, if_false] at h ⊢
    all_goals first
      | omega
      | (have := h1 (by omega); omega)
      | (have := h2 (by omega); omega)
      | (have := h1 (by omega); have := h3 (by omega); omega)
      | (have := h2 (by omega); have := h3 (by omega); omega)
/-- numbers of 53 digits are doubles -/
theorem own_rep (c : Int) (j : Nat) (hc : c.natAbs < 2 ^ 53) (hj : j ≤ 2045) : ∃ V, Core.DFin V ∧ own_zv V = c * ((2 ^ j : Nat) : Int) := by
  have hq1 : Core.b64.qmin = -1074 := Core.qmin_b64
  have hq2 : Core.b64.qmax = 971 := by decide
  obtain ⟨c', q', h1, h2⟩ := Core.round_exact Core.good_b64 (decide (c < 0)) (c := c.natAbs) (q := Core.b64.qmin + j) hc (by omega) (by omega)
  have hv : Core.val64 (Core.of64 (Core.round Core.b64 (.fin (decide (c < 0)) c.natAbs (Core.b64.qmin + j)))) = .fin (decide (c < 0)) c' q' := by
    rw [Core.val64_of64 (Core.round_fits Core.good_b64 _), h1]
  refine ⟨_, ⟨_, _, _, hv⟩, ?_⟩
  unfold own_zv; rw [hv]
  show Core.signed (decide (c < 0)) (Core.inUnits c' q' Core.b64.qmin) = _
  rw [h2]; unfold Core.inUnits
  rw [Core.signed_mul, show (Core.b64.qmin + (j : Int) - Core.b64.qmin).toNat = j by omega]
  congr 1
  by_cases h : c < 0
  · simp only [Core.signed, h, decide_true, if_true]; omega
  · simp only [Core.signed, h, decide_false, Bool.false_eq_true, if_false]; omega
theorem own_zv_lt {a : UInt64} (h : Core.DFin a) : (own_zv a).natAbs < Core.b64.tails * 2 ^ (Core.b64.exps - 2) := by
  have := Core.DFin.zval_lt h
  unfold own_zv Core.zval; rw [Core.natAbs_signed]; exact this
theorem own_fin_of {r V : UInt64} (hr : Core.val64 r ≠ .nan) (hV : Core.DFin V) (h : (own_zv r).natAbs ≤ (own_zv V).natAbs) : Core.DFin r := by
  cases e : Core.val64 r with
  | nan => exact absurd e hr
  | inf s =>
    have h1 := own_zv_lt hV
    have h2 : (own_zv r).natAbs = Core.b64.tails * 2 ^ (Core.b64.exps - 2) := by unfold own_zv Core.zval; rw [Core.natAbs_signed, e]; rfl
    omega
  | fin s c q => exact ⟨s, c, q, e⟩
/-- what is representable is not rounded -/
theorem own_exactV {N D : Int} {r V : UInt64} (h : own_rnd N D r) (hV : Core.DFin V) (e : own_zv V * D = N) : Core.DFin r ∧ own_zv r = own_zv V := by
  have h1 := h.2.1 V hV.ne_nan (by omega)
  have h2 := h.2.2 V hV.ne_nan (by omega)
  have h3 : own_zv r = own_zv V := by omega
  exact ⟨own_fin_of h.1 hV (by rw [h3]; exact Nat.le_refl _), h3⟩
theorem own_exact {N D : Int} {r : UInt64} (h : own_rnd N D r) (c : Int) (j : Nat) (hc : c.natAbs < 2 ^ 53) (hj : j ≤ 2045) (e : c * ((2 ^ j : Nat) : Int) * D = N) : Core.DFin r ∧ own_zv r = c * ((2 ^ j : Nat) : Int) := by
  obtain ⟨V, f, z⟩ := own_rep c j hc hj
  rw [← z] at e ⊢
  exact own_exactV h f e
/-! the order -/
theorem own_dcmp {a b : UInt64} (ha : Core.val64 a ≠ .nan) (hb : Core.val64 b ≠ .nan) : FP.dcmp a b = some (compare (own_zv a) (own_zv b)) := Core.dcmp_zval ha hb
theorem own_cmpv {a b : UInt64} (ha : Core.val64 a ≠ .nan) (hb : Core.val64 b ≠ .nan) (o : CmpOp) : cmpValue (FP.dcmp a b) o = if own_zv a < own_zv b then -1 else if own_zv a = own_zv b then 0 else 1 := by
  rw [own_dcmp ha hb, Core.compare_ite]
  by_cases h1 : own_zv a < own_zv b
  · simp only [h1, if_true]; cases o <;> rfl
  · by_cases h2 : own_zv a = own_zv b
    · simp only [h2, Int.lt_irrefl, if_true, if_false]; cases o <;> rfl
    · simp only [h1, h2, if_false]; cases o <;> rfl
theorem own_cmp_le {a b : UInt64} (ha : Core.val64 a ≠ .nan) (hb : Core.val64 b ≠ .nan) (h : own_zv a ≤ own_zv b) (o : CmpOp) : ¬ ((0 : Int32) < cmpValue (FP.dcmp a b) o) := by
  rw [own_cmpv ha hb]
  by_cases h1 : own_zv a < own_zv b
  · rw [if_pos h1]; decide
  · rw [if_neg h1, if_pos (by omega)]; decide
theorem own_cmp_ge {a b : UInt64} (ha : Core.val64 a ≠ .nan) (hb : Core.val64 b ≠ .nan) (h : own_zv b ≤ own_zv a) (o : CmpOp) : ¬ (cmpValue (FP.dcmp a b) o < (0 : Int32)) := by
  rw [own_cmpv ha hb, if_neg (by omega)]
  by_cases h1 : own_zv a = own_zv b
  · rw [if_pos h1]; decide
  · rw [if_neg h1]; decide
theorem own_cmp_lt {a b : UInt64} (ha : Core.val64 a ≠ .nan) (hb : Core.val64 b ≠ .nan) (h : own_zv a < own_zv b) (o : CmpOp) : cmpValue (FP.dcmp a b) o < (0 : Int32) := by
  rw [own_cmpv ha hb, if_pos h]; decide
theorem own_cmp_gt {a b : UInt64} (ha : Core.val64 a ≠ .nan) (hb : Core.val64 b ≠ .nan) (h : own_zv b < own_zv a) (o : CmpOp) : (0 : Int32) < cmpValue (FP.dcmp a b) o := by
  rw [own_cmpv ha hb, if_neg (by omega), if_neg (by omega)]; decide
theorem own_cmp_eq {a b : UInt64} (ha : Core.val64 a ≠ .nan) (hb : Core.val64 b ≠ .nan) (h : own_zv a = own_zv b) (o : CmpOp) : cmpValue (FP.dcmp a b) o = (0 : Int32) := by
  rw [own_cmpv ha hb, if_neg (by omega), if_pos h]
theorem own_cmp_ne {a b : UInt64} (ha : Core.val64 a ≠ .nan) (hb : Core.val64 b ≠ .nan) (h : own_zv a ≠ own_zv b) (o : CmpOp) : ¬ (cmpValue (FP.dcmp a b) o = (0 : Int32)) := by
  rw [own_cmpv ha hb]
  by_cases h1 : own_zv a < own_zv b
  · rw [if_pos h1]; decide
  · rw [if_neg h1, if_neg h]; decide
/-! no NaN -/
theorem own_nn {a : UInt64} (h : Core.val64 a ≠ .nan) : NoNaN64 a := noNaN64_no.mpr ((Core.notNaN_iff a).mpr h)
theorem own_rnd_nn {N D : Int} {r : UInt64} (h : own_rnd N D r) : NoNaN64 r := own_nn h.1
theorem own_fin_nn {a : UInt64} (h : Core.DFin a) : NoNaN64 a := own_nn h.ne_nan
/-! whole numbers -/
theorem own_i2d (x : Int32) : Core.DFin (FP.i2d x) ∧ own_zv (FP.i2d x) = x.toInt * own_U := ⟨Core.i2d_fin x, Core.DInt_zval (Core.i2d_int x)⟩
theorem own_l2d {x : Int64} (h : x.toInt.natAbs ≤ 2 ^ 53) : Core.DFin (FP.l2d x) ∧ own_zv (FP.l2d x) = x.toInt * own_U := ⟨Core.l2d_fin x, Core.DInt_zval (Core.l2d_int h)⟩
theorem own_U_eq : own_U = ((2 ^ 1074 : Nat) : Int) := rfl
end OwnFloat
section OwnFloat2
open Jvm.FP Jvm.FP.Core
theorem own_lt_U {i j : Int} : i * own_U < j * own_U ↔ i < j := by
  have h := own_U_pos
  constructor
  · intro q; exact Int.lt_of_mul_lt_mul_right q (Int.le_of_lt h)
  · intro q; exact Int.mul_lt_mul_of_pos_right q h
theorem own_eq_U {i j : Int} : i * own_U = j * own_U ↔ i = j := by
  have h := own_U_pos
  constructor
  · intro q; exact Int.eq_of_mul_eq_mul_right (by omega) q
  · intro q; rw [q]
/-- a is the whole number i -/
def own_is (i : Int) (a : UInt64) : Prop := Core.DFin a ∧ own_zv a = i * own_U
theorem own_is_i2d (x : Int32) : own_is x.toInt (FP.i2d x) := own_i2d x
theorem own_is_neg0 : own_is 0 (9223372036854775808 : UInt64) := ⟨by rw [Core.fin_bits]; decide, by decide +kernel⟩
theorem own_is_0 : own_is 0 (0 : UInt64) := ⟨by rw [Core.fin_bits]; decide, by decide +kernel⟩
theorem own_cmpU {a b : UInt64} {i j : Int} (ha : own_is i a) (hb : own_is j b) (o : CmpOp) : cmpValue (FP.dcmp a b) o = if i < j then -1 else if i = j then 0 else 1 := by
  rw [own_cmpv ha.1.ne_nan hb.1.ne_nan, ha.2, hb.2]; simp only [own_lt_U, own_eq_U]
end OwnFloat2
section OwnFloat3
open Jvm.FP Jvm.FP.Core
theorem own_is_dneg {i : Int} {a : UInt64} (h : own_is i a) : own_is (-i) (FP.dneg a) := by
  obtain ⟨f, z⟩ := own_dneg_zv h.1
  exact ⟨f, by rw [z, h.2, Int.neg_mul]⟩
theorem own_self {a : UInt64} (h : Core.DFin a) (o : CmpOp) : cmpValue (FP.dcmp a a) o = (0 : Int32) := own_cmp_eq h.ne_nan h.ne_nan rfl o
/-- x - x is nought -/
theorem own_dsub_self {a : UInt64} (h : Core.DFin a) : FP.dsub a a = 0 := by
  obtain ⟨s, c, q, e⟩ := h
  exact Core.dsub_self e
end OwnFloat3
section OwnFloat4
open Jvm.FP Jvm.FP.Core
theorem own_rep_le (c : Int) (j : Nat) (hc : c.natAbs ≤ 2 ^ 53) (hj : j ≤ 2044) : ∃ V, Core.DFin V ∧ own_zv V = c * ((2 ^ j : Nat) : Int) := by
  by_cases h : c.natAbs < 2 ^ 53
  · exact own_rep c j h (by omega)
  · obtain ⟨V, f, z⟩ := own_rep (c / 2) (j + 1) (by omega) (by omega)
    refine ⟨V, f, ?_⟩
    rw [z, Nat.pow_succ, Int.natCast_mul]
    have : c = c / 2 * 2 := by omega
    rw [Int.mul_comm ((2 ^ j : Nat) : Int), ← Int.mul_assoc]
    have e : c / 2 * ((2 : Nat) : Int) = c := by omega
    rw [e]
theorem own_rnd_scale {N D k : Int} {r : UInt64} (hk : 0 < k) (h : own_rnd (N * k) (D * k) r) : own_rnd N D r := by
  refine ⟨h.1, fun V hV q => h.2.1 V hV ?_, fun V hV q => h.2.2 V hV ?_⟩
  · rw [← Int.mul_assoc]; exact Int.mul_le_mul_of_nonneg_right q (Int.le_of_lt hk)
  · rw [← Int.mul_assoc]; exact Int.mul_le_mul_of_nonneg_right q (Int.le_of_lt hk)
/-- the relative error, one unit in the last place at the most -/
theorem own_rel {N D : Int} {r : UInt64} (h : own_rnd N D r) (hD : 0 < D) (lo : 4503599627370496 * D ≤ N) (hi : N / D < ((2 ^ 2096 : Nat) : Int)) :
    Core.DFin r ∧ 4503599627370496 * (own_zv r * D - N) ≤ N ∧ 4503599627370496 * (N - own_zv r * D) ≤ N := by
  have hM : 4503599627370496 ≤ N / D := Int.le_ediv_of_mul_le hD lo
  obtain ⟨m, hm⟩ : ∃ m : Nat, N / D = (m : Int) := ⟨(N / D).toNat, by omega⟩
  have hN := Int.mul_ediv_add_emod N D
  have hr0 := Int.emod_nonneg N (show D ≠ 0 by omega)
  have hr1 := Int.emod_lt_of_pos N hD
  have m0 : m ≠ 0 := by omega
  have l1 : 2 ^ m.log2 ≤ m := Nat.log2_self_le m0
  have l2 : m < 2 ^ (m.log2 + 1) := Nat.lt_log2_self
  have l3 : 52 ≤ m.log2 := by
    apply Nat.le_of_lt_succ
    apply (Nat.pow_lt_pow_iff_right (by decide : 1 < 2)).mp
    exact Nat.lt_of_le_of_lt (show 2 ^ 52 ≤ m by omega) l2
  have l4 : m.log2 < 2096 := by
    apply (Nat.pow_lt_pow_iff_right (by decide : 1 < 2)).mp
    exact Nat.lt_of_le_of_lt l1 (by rw [hm] at hi; exact Int.ofNat_lt.mp hi)
  obtain ⟨e, he⟩ : ∃ e, m.log2 = e + 52 := ⟨m.log2 - 52, by omega⟩
  have hg : 0 < 2 ^ e := Nat.two_pow_pos e
  have p1 : 2 ^ m.log2 = 2 ^ e * 4503599627370496 := by rw [he, Nat.pow_add]
  have p2 : 2 ^ (m.log2 + 1) = 2 ^ e * 9007199254740992 := by rw [he, Nat.pow_add, Nat.pow_add]; omega
  have dm := Nat.div_add_mod m (2 ^ e)
  have ml := Nat.mod_lt m hg
  have k1 : 4503599627370496 ≤ m / 2 ^ e := (Nat.le_div_iff_mul_le hg).mpr (by rw [Nat.mul_comm]; omega)
  have k2 : m / 2 ^ e < 9007199254740992 := (Nat.div_lt_iff_lt_mul hg).mpr (by rw [Nat.mul_comm]; omega)
  obtain ⟨V1, f1, z1⟩ := own_rep_le ((m / 2 ^ e : Nat) : Int) e (by omega) (by omega)
  obtain ⟨V2, f2, z2⟩ := own_rep_le ((m / 2 ^ e + 1 : Nat) : Int) e (by omega) (by omega)
  have a1 : ((m / 2 ^ e : Nat) : Int) * ((2 ^ e : Nat) : Int) ≤ (m : Int) := by rw [← Int.natCast_mul]; exact Int.ofNat_le.mpr (Nat.div_mul_le_self _ _)
  have a2 : (m : Int) + 1 ≤ ((m / 2 ^ e + 1 : Nat) : Int) * ((2 ^ e : Nat) : Int) := by
    rw [← Int.natCast_mul]; have : m + 1 ≤ (m / 2 ^ e + 1) * 2 ^ e := by rw [Nat.add_mul, Nat.one_mul, Nat.mul_comm]; omega
    exact Int.ofNat_le.mpr this
  have a3 : ((m / 2 ^ e + 1 : Nat) : Int) * ((2 ^ e : Nat) : Int) = ((m / 2 ^ e : Nat) : Int) * ((2 ^ e : Nat) : Int) + ((2 ^ e : Nat) : Int) := by
    rw [Int.natCast_add, Int.add_mul]; simp
  have a4 : 4503599627370496 * ((2 ^ e : Nat) : Int) ≤ (m : Int) := by
    have : 2 ^ e * 4503599627370496 ≤ m := by omega
    omega
  have b1 : own_zv V1 * D ≤ N := by
    rw [z1]; have := Int.mul_le_mul_of_nonneg_right a1 (Int.le_of_lt hD); rw [hm, Int.mul_comm] at hN; omega
  have b2 : N ≤ own_zv V2 * D := by
    rw [z2]; have := Int.mul_le_mul_of_nonneg_right a2 (Int.le_of_lt hD); rw [Int.add_mul, Int.one_mul] at this; rw [hm, Int.mul_comm] at hN; omega
  have c1 := h.2.1 V1 f1.ne_nan b1
  have c2 := h.2.2 V2 f2.ne_nan b2
  rw [z1] at c1 b1; rw [z2] at c2 b2
  have d1 := Int.mul_le_mul_of_nonneg_right c1 (Int.le_of_lt hD)
  have d2 := Int.mul_le_mul_of_nonneg_right c2 (Int.le_of_lt hD)
  have d3 := Int.mul_le_mul_of_nonneg_right a4 (Int.le_of_lt hD)
  rw [a3, Int.add_mul] at d2 b2
  have d4 : (m : Int) * D ≤ N := by rw [hm, Int.mul_comm] at hN; omega
  rw [Int.mul_assoc] at d3
  refine ⟨own_fin_of h.1 f2 ?_, by omega, by omega⟩
  rw [z2]
  have s0 : 0 ≤ ((m / 2 ^ e : Nat) : Int) * ((2 ^ e : Nat) : Int) := Int.mul_nonneg (Int.natCast_nonneg _) (Int.natCast_nonneg _)
  omega
theorem own_is_mul {i j : Int} {a b : UInt64} (ha : own_is i a) (hb : own_is j b) (h : (i * j).natAbs < 2 ^ 53) : own_is (i * j) (FP.dmul a b) := by
  refine own_exact (own_dmul_rnd ha.1 hb.1) (i * j) 1074 h (by decide) ?_
  rw [ha.2, hb.2, ← own_U_eq]; simp only [Int.mul_assoc, Int.mul_comm, Int.mul_left_comm]
theorem own_is_add {i j : Int} {a b : UInt64} (ha : own_is i a) (hb : own_is j b) (h : (i + j).natAbs < 2 ^ 53) : own_is (i + j) (FP.dadd a b) := by
  refine own_exact (own_dadd_rnd ha.1 hb.1) (i + j) 1074 h (by decide) ?_
  rw [ha.2, hb.2, ← own_U_eq, Int.mul_one, Int.add_mul]
theorem own_is_sub {i j : Int} {a b : UInt64} (ha : own_is i a) (hb : own_is j b) (h : (i - j).natAbs < 2 ^ 53) : own_is (i - j) (FP.dsub a b) := by
  refine own_exact (own_dsub_rnd ha.1 hb.1) (i - j) 1074 h (by decide) ?_
  rw [ha.2, hb.2, ← own_U_eq, Int.mul_one, Int.sub_mul]
theorem own_is_l2d {x : Int64} (h : x.toInt.natAbs ≤ 2 ^ 53) : own_is x.toInt (FP.l2d x) := own_l2d h
/-- the quotient of two whole numbers, the divisor positive -/
theorem own_is_div_rnd {i j : Int} {a b : UInt64} (ha : own_is i a) (hb : own_is j b) (hj : 0 < j) : own_rnd (i * own_U) j (FP.ddiv a b) := by
  have hU := own_U_pos
  have hz : 0 < own_zv b := by rw [hb.2]; exact Int.mul_pos hj hU
  have h := own_ddiv_rnd ha.1 hb.1 (by omega)
  rw [if_pos hz, Int.natAbs_of_nonneg (Int.le_of_lt hz), ha.2, hb.2] at h
  exact own_rnd_scale hU h
end OwnFloat4
section OwnFloat5
open Jvm.FP Jvm.FP.Core
/-- a is c * 2^(j - 1074) -/
def own_at (c : Int) (j : Nat) (a : UInt64) : Prop := Core.DFin a ∧ own_zv a = c * ((2 ^ j : Nat) : Int)
theorem own_at_is {i : Int} {a : UInt64} (h : own_is i a) : own_at i 1074 a := h
theorem own_at_add {c1 c2 : Int} {j : Nat} {a b : UInt64} (ha : own_at c1 j a) (hb : own_at c2 j b) (h : (c1 + c2).natAbs < 2 ^ 53) (hj : j ≤ 2045) : own_at (c1 + c2) j (FP.dadd a b) := by
  refine own_exact (own_dadd_rnd ha.1 hb.1) (c1 + c2) j h hj ?_
  rw [ha.2, hb.2, Int.mul_one, Int.add_mul]
theorem own_at_sub {c1 c2 : Int} {j : Nat} {a b : UInt64} (ha : own_at c1 j a) (hb : own_at c2 j b) (h : (c1 - c2).natAbs < 2 ^ 53) (hj : j ≤ 2045) : own_at (c1 - c2) j (FP.dsub a b) := by
  refine own_exact (own_dsub_rnd ha.1 hb.1) (c1 - c2) j h hj ?_
  rw [ha.2, hb.2, Int.mul_one, Int.sub_mul]
theorem own_at_mul {c1 c2 : Int} {j1 j2 : Nat} {a b : UInt64} (ha : own_at c1 j1 a) (hb : own_at c2 j2 b) (j : Nat) (e : j1 + j2 = j + 1074) (h : (c1 * c2).natAbs < 2 ^ 53) (hj : j ≤ 2045) : own_at (c1 * c2) j (FP.dmul a b) := by
  refine own_exact (own_dmul_rnd ha.1 hb.1) (c1 * c2) j h hj ?_
  have p : ((2 ^ j : Nat) : Int) * own_U = ((2 ^ j1 : Nat) : Int) * ((2 ^ j2 : Nat) : Int) := by rw [own_U_eq, ← Int.natCast_mul, ← Int.natCast_mul, ← Nat.pow_add, ← Nat.pow_add, e]
  rw [ha.2, hb.2, Int.mul_assoc (c1 * c2), p]; simp only [Int.mul_assoc, Int.mul_comm, Int.mul_left_comm]
/-- a quotient that is exact -/
theorem own_at_div {c1 c2 c : Int} {j1 j2 : Nat} {a b : UInt64} (ha : own_at c1 j1 a) (hb : own_at c2 j2 b) (hc : 0 < c2) (j : Nat) (e : c * c2 * ((2 ^ (j + j2) : Nat) : Int) = c1 * ((2 ^ (j1 + 1074) : Nat) : Int)) (h : c.natAbs < 2 ^ 53) (hj : j ≤ 2045) : own_at c j (FP.ddiv a b) := by
  have hz : 0 < own_zv b := by rw [hb.2]; exact Int.mul_pos hc (Int.natCast_pos.mpr (Nat.two_pow_pos _))
  have hr := own_ddiv_rnd ha.1 hb.1 (by omega)
  rw [if_pos hz, Int.natAbs_of_nonneg (Int.le_of_lt hz)] at hr
  refine own_exact hr c j h hj ?_
  rw [ha.2, hb.2, own_U_eq]
  rw [Nat.pow_add, Nat.pow_add, Int.natCast_mul, Int.natCast_mul] at e
  have l : c * ((2 ^ j : Nat) : Int) * (c2 * ((2 ^ j2 : Nat) : Int)) = c * c2 * (((2 ^ j : Nat) : Int) * ((2 ^ j2 : Nat) : Int)) := by simp only [Int.mul_assoc, Int.mul_comm, Int.mul_left_comm]
  rw [l, e, Int.mul_assoc]
theorem own_at_up {c : Int} {j i : Nat} {a : UInt64} (h : own_at c (j + i) a) : own_at (c * ((2 ^ i : Nat) : Int)) j a :=
  ⟨h.1, by rw [h.2, Nat.pow_add, Int.natCast_mul, Int.mul_assoc, Int.mul_comm ((2 ^ i : Nat) : Int)]⟩
theorem own_at_dn {c : Int} {j i : Nat} {a : UInt64} (h : own_at (c * ((2 ^ i : Nat) : Int)) j a) : own_at c (j + i) a :=
  ⟨h.1, by rw [h.2, Nat.pow_add, Int.natCast_mul, Int.mul_assoc, Int.mul_comm ((2 ^ i : Nat) : Int)]⟩
theorem own_at_eq {c : Int} {j : Nat} {a b : UInt64} (ha : own_at c j a) (hb : own_at c j b) (o : CmpOp) : cmpValue (FP.dcmp a b) o = (0 : Int32) := own_cmp_eq ha.1.ne_nan hb.1.ne_nan (by rw [ha.2, hb.2]) o
theorem own_at_nn {c : Int} {j : Nat} {a : UInt64} (h : own_at c j a) : NoNaN64 a := own_fin_nn h.1
end OwnFloat5
section OwnFloat6
open Jvm.FP Jvm.FP.Core
theorem own_is_div {k j : Int} {a b : UInt64} (ha : own_is (k * j) a) (hb : own_is j b) (hj : j ≠ 0) (h : k.natAbs < 2 ^ 53) : own_is k (FP.ddiv a b) := by
  have hU := own_U_pos
  have hz : own_zv b ≠ 0 := by rw [hb.2]; intro q; rcases Int.mul_eq_zero.mp q with q | q <;> omega
  refine own_exact (own_ddiv_rnd ha.1 hb.1 hz) k 1074 h (by decide) ?_
  rw [← own_U_eq]
  by_cases q : 0 < own_zv b
  · rw [if_pos q, Int.natAbs_of_nonneg (Int.le_of_lt q), ha.2, hb.2]; simp only [Int.mul_assoc, Int.mul_comm, Int.mul_left_comm]
  · rw [if_neg q]
    have e : ((own_zv b).natAbs : Int) = -own_zv b := by omega
    rw [e, ha.2, hb.2, Int.mul_neg]; congr 1; simp only [Int.mul_assoc, Int.mul_comm, Int.mul_left_comm]
theorem own_fin_between {r V1 V2 : UInt64} (hr : Core.val64 r ≠ .nan) (h1 : Core.DFin V1) (h2 : Core.DFin V2) (a : own_zv V1 ≤ own_zv r) (b : own_zv r ≤ own_zv V2) : Core.DFin r := by
  by_cases q : (own_zv r).natAbs ≤ (own_zv V1).natAbs
  · exact own_fin_of hr h1 q
  · exact own_fin_of hr h2 (by omega)
/-- a quotient by a whole number, of any dividend -/
theorem own_div_rnd {j : Int} {a b : UInt64} (ha : Core.DFin a) (hb : own_is j b) (hj : 0 < j) : own_rnd (own_zv a) j (FP.ddiv a b) := by
  have hU := own_U_pos
  have hz : 0 < own_zv b := by rw [hb.2]; exact Int.mul_pos hj hU
  have h := own_ddiv_rnd ha hb.1 (by omega)
  rw [if_pos hz, Int.natAbs_of_nonneg (Int.le_of_lt hz), hb.2] at h
  exact own_rnd_scale hU h
theorem own_rep_is (k : Int) (h : k.natAbs < 2 ^ 53) : ∃ V, own_is k V := own_rep k 1074 h (by decide)
end OwnFloat6
section OwnFloat7
open Jvm.FP Jvm.FP.Core
/-- one value, not nought: one pattern of bits -/
theorem own_bits {a b : UInt64} (ha : Core.DFin a) (hb : Core.DFin b) (e : own_zv a = own_zv b) (h : own_zv b ≠ 0) : a = b := by
  refine Core.eq_bits (fun q => h ?_) ?_
  · have := Core.DZero.zval q; exact this
  · show FP.dcmp a b = _
    rw [own_dcmp ha.ne_nan hb.ne_nan, e, Core.compare_self_int]
theorem own_at_bits {c : Int} {j : Nat} {a b : UInt64} (ha : own_at c j a) (hb : own_at c j b) (h : c ≠ 0) : a = b := by
  refine own_bits ha.1 hb.1 (by rw [ha.2, hb.2]) ?_
  rw [hb.2]; intro q
  rcases Int.mul_eq_zero.mp q with q | q
  · exact h q
  · have := Nat.two_pow_pos j; omega
theorem own_fin64 {a : UInt64} (h : Core.DFin a) : Fin64 a := fin64_core.mpr h
end OwnFloat7
section OwnFloat8
open Jvm.FP Jvm.FP.Core
/-- r's magnitude is A / B (units of 2^-1074), rounded to nearest -/
def own_rr (A B : Nat) (r : UInt64) : Prop := 0 < B ∧ ∃ s, Core.val64 r = Core.roundRatio Core.b64 s A B Core.b64.qmin
theorem own_mag {a : UInt64} : (own_zv a).natAbs = Core.zmag Core.b64 (Core.val64 a) := by unfold own_zv Core.zval; rw [Core.natAbs_signed]
theorem own_in0 (A : Nat) : Core.inUnits A Core.b64.qmin Core.b64.qmin = A := by unfold Core.inUnits; rw [own_pow0, Nat.mul_one]
theorem own_rr_mono {A1 B1 A2 B2 : Nat} {r1 r2 : UInt64} (h1 : own_rr A1 B1 r1) (h2 : own_rr A2 B2 r2) (f1 : Core.DFin r1) (f2 : Core.DFin r2) (h : A1 * B2 ≤ A2 * B1) : (own_zv r1).natAbs ≤ (own_zv r2).natAbs := by
  obtain ⟨b1, s1, e1⟩ := h1
  obtain ⟨b2, s2, e2⟩ := h2
  have n1 := f1.ne_nan; have n2 := f2.ne_nan
  rw [own_mag, own_mag]
  by_cases q1 : A1 ≤ Core.zmag Core.b64 (Core.val64 r2) * B1
  · have := Core.zmag_roundRatio_le Core.good_b64 (s := s1) (A := A1) (B := B1) (e := Core.b64.qmin) (e0 := Core.b64.qmin) b1 (Core.val64_fits r2) n2 (Int.le_refl _) (Int.le_refl _) (by rw [own_in0, own_pow0, Nat.mul_one]; exact q1)
    rw [← e1] at this; exact this
  · by_cases q2 : Core.zmag Core.b64 (Core.val64 r1) * B2 ≤ A2
    · have := Core.zmag_roundRatio_ge Core.good_b64 (s := s2) (A := A2) (B := B2) (e := Core.b64.qmin) (e0 := Core.b64.qmin) b2 (Core.val64_fits r1) (Int.le_refl _) (Int.le_refl _) (by rw [own_in0, own_pow0, Nat.mul_one]; exact q2)
      rw [← e2] at this; exact this
    · apply Nat.le_of_not_lt; intro hlt
      obtain ⟨t1, c1, x1, v1⟩ := f1
      obtain ⟨t2, c2, x2, v2⟩ := f2
      have g1 := Core.val64_fits r1; rw [v1] at g1
      have g2 := Core.val64_fits r2; rw [v2] at g2
      have d1 := Core.roundRatio_nearest Core.good_b64 (e0 := Core.b64.qmin) b1 (e1.symm.trans v1) g2.1 g2.2.1 (Int.le_refl _) (Int.le_refl _)
      have d2 := Core.roundRatio_nearest Core.good_b64 (e0 := Core.b64.qmin) b2 (e2.symm.trans v2) g1.1 g1.2.1 (Int.le_refl _) (Int.le_refl _)
      unfold Core.distance at d1 d2
      rw [own_in0] at d1 d2
      have z1 : Core.zmag Core.b64 (Core.val64 r1) = Core.inUnits c1 x1 Core.b64.qmin := by rw [v1]; rfl
      have z2 : Core.zmag Core.b64 (Core.val64 r2) = Core.inUnits c2 x2 Core.b64.qmin := by rw [v2]; rfl
      rw [← z1, ← z2] at d1 d2
      generalize hz1 : Core.zmag Core.b64 (Core.val64 r1) = Z1 at *
      generalize hz2 : Core.zmag Core.b64 (Core.val64 r2) = Z2 at *
      rw [← Int.natCast_mul, ← Int.natCast_mul] at d1 d2
      -- A1 < Z1 * B1 as well
      have k1 : A1 * B2 < Z1 * B1 * B2 := by
        have : A2 * B1 < Z1 * B2 * B1 := Nat.mul_lt_mul_of_pos_right (by omega) b1
        have e : Z1 * B2 * B1 = Z1 * B1 * B2 := by simp only [Nat.mul_assoc, Nat.mul_comm, Nat.mul_left_comm]
        omega
      have k2 : A1 < Z1 * B1 := Nat.lt_of_mul_lt_mul_right k1
      have k3 : Z2 * B1 * B2 < A2 * B1 := by
        have : Z2 * B1 * B2 < A1 * B2 := Nat.mul_lt_mul_of_pos_right (by omega) b2
        omega
      have k4 : Z2 * B2 < A2 := by
        have e : Z2 * B1 * B2 = Z2 * B2 * B1 := by simp only [Nat.mul_assoc, Nat.mul_comm, Nat.mul_left_comm]
        rw [e] at k3; exact Nat.lt_of_mul_lt_mul_right k3
      have m1 : (Z1 + Z2) * B1 ≤ 2 * A1 := by rw [Nat.add_mul]; omega
      have m2 : 2 * A2 ≤ (Z1 + Z2) * B2 := by rw [Nat.add_mul]; omega
      have m3 := Nat.mul_le_mul_right B2 m1
      have m4 := Nat.mul_le_mul_right B1 m2
      have e3 : (Z1 + Z2) * B1 * B2 = (Z1 + Z2) * B2 * B1 := by simp only [Nat.mul_assoc, Nat.mul_comm, Nat.mul_left_comm]
      have e4 : 2 * A1 * B2 = 2 * (A1 * B2) := Nat.mul_assoc _ _ _
      have e5 : 2 * A2 * B1 = 2 * (A2 * B1) := Nat.mul_assoc _ _ _
      have e6 : A1 * B2 = A2 * B1 := by omega
      have cg := Core.roundRatio_congr (f := Core.b64) (s := s1) (e := Core.b64.qmin) (e' := Core.b64.qmin) b1 b2 (by rw [own_pow0, Nat.mul_one, Nat.mul_one]; exact e6)
      have w1 := Core.zmag_roundRatio_le Core.good_b64 (s := s1) (A := A2) (B := B2) (e := Core.b64.qmin) (e0 := Core.b64.qmin) (V := Core.val64 r2) b2 (Core.val64_fits r2) n2 (Int.le_refl _) (Int.le_refl _)
      -- one sign or the other: the magnitudes are one
      have sg : Core.zmag Core.b64 (Core.roundRatio Core.b64 s1 A2 B2 Core.b64.qmin) = Core.zmag Core.b64 (Core.roundRatio Core.b64 s2 A2 B2 Core.b64.qmin) := by
        by_cases q : s1 = s2
        · rw [q]
        · have e : s2 = !s1 := by cases s1 <;> cases s2 <;> simp at q ⊢
          have ng := Core.negate_roundRatio Core.b64 s1 A2 B2 Core.b64.qmin
          rw [e, ← ng]
          cases Core.roundRatio Core.b64 s1 A2 B2 Core.b64.qmin <;> rfl
      rw [← cg, ← e1, ← e2, hz1, hz2] at sg
      omega
theorem own_rr_of_round {x : UInt64} {sg : Bool} {n : Nat} {e : Int} {A B : Nat} (hx : Core.val64 x = Core.round Core.b64 (.fin sg n e)) (hB : 0 < B) (h : n * B * 2 ^ (e - Core.b64.qmin).toNat = A * 1 * 2 ^ (Core.b64.qmin - e).toNat) : own_rr A B x :=
  ⟨hB, sg, hx.trans (Core.roundRatio_congr (f := Core.b64) (s := sg) (by decide) hB h)⟩
theorem own_rr_dmul {a b : UInt64} (ha : Core.DFin a) (hb : Core.DFin b) : own_rr ((own_zv a).natAbs * (own_zv b).natAbs) Core.one64 (FP.dmul a b) := by
  obtain ⟨s, c, q, ea⟩ := ha
  obtain ⟨t, d, r, eb⟩ := hb
  have fa := Core.val64_fits a; have fb := Core.val64_fits b
  rw [ea] at fa; rw [eb] at fb
  have h1 := fa.2.1; have h2 := fb.2.1
  have hq := Core.qmin_neg Core.good_b64
  have hv : Core.val64 (FP.dmul a b) = Core.round Core.b64 (.fin (s != t) (c * d) (q + r)) := by
    show Core.val64 (Core.dmul a b) = _
    rw [Core.val64_dmul, ea, eb]; rfl
  refine own_rr_of_round hv Core.one64_pos ?_
  rw [own_mag, own_mag, ea, eb]
  show _ = Core.inUnits c q Core.b64.qmin * Core.inUnits d r Core.b64.qmin * 1 * _
  unfold Core.inUnits
  rw [← Core.pow_qmin64, Nat.mul_one]
  have l : c * d * 2 ^ (-Core.b64.qmin).toNat * 2 ^ (q + r - Core.b64.qmin).toNat = c * d * 2 ^ ((-Core.b64.qmin).toNat + (q + r - Core.b64.qmin).toNat) := by rw [Nat.pow_add, Nat.mul_assoc (c * d)]
  have m : c * 2 ^ (q - Core.b64.qmin).toNat * (d * 2 ^ (r - Core.b64.qmin).toNat) * 2 ^ (Core.b64.qmin - (q + r)).toNat = c * d * 2 ^ ((q - Core.b64.qmin).toNat + (r - Core.b64.qmin).toNat + (Core.b64.qmin - (q + r)).toNat) := by
    rw [Nat.pow_add, Nat.pow_add]; simp only [Nat.mul_assoc, Nat.mul_comm, Nat.mul_left_comm]
  rw [l, m]; congr 2; omega
theorem own_rr_dadd {a b : UInt64} (ha : Core.DFin a) (hb : Core.DFin b) : own_rr (own_zv a + own_zv b).natAbs 1 (FP.dadd a b) := by
  obtain ⟨s, c, q, ea⟩ := ha
  obtain ⟨t, d, r, eb⟩ := hb
  have fa := Core.val64_fits a; have fb := Core.val64_fits b
  rw [ea] at fa; rw [eb] at fb
  obtain ⟨sg, n, e, h1, h2, h3⟩ := Core.sum_units fa fb
  have hv : Core.val64 (FP.dadd a b) = Core.round Core.b64 (.fin sg n e) := by
    show Core.val64 (Core.dadd a b) = _
    rw [Core.val64_dadd, ea, eb, h1]
  refine own_rr_of_round hv (by decide) ?_
  have z : (own_zv a + own_zv b).natAbs = Core.inUnits n e Core.b64.qmin := by
    unfold own_zv; rw [ea, eb, ← h3, Core.natAbs_signed]
  rw [z, Nat.mul_one, Nat.mul_one]
  unfold Core.inUnits
  rw [show (Core.b64.qmin - e).toNat = 0 by omega, Nat.pow_zero, Nat.mul_one]
theorem own_rr_ddiv {a b : UInt64} (ha : Core.DFin a) (hb : Core.DFin b) (hz : own_zv b ≠ 0) : own_rr ((own_zv a).natAbs * Core.one64) (own_zv b).natAbs (FP.ddiv a b) := by
  obtain ⟨s, c, q, ea⟩ := ha
  obtain ⟨t, d, r, eb⟩ := hb
  have fa := Core.val64_fits a; have fb := Core.val64_fits b
  rw [ea] at fa; rw [eb] at fb
  have h1 := fa.2.1; have h2 := fb.2.1
  have hq := Core.qmin_neg Core.good_b64
  have zb : own_zv b = Core.signed t (Core.inUnits d r Core.b64.qmin) := by unfold own_zv; rw [eb]; rfl
  have d0 : d ≠ 0 := fun h => hz (by rw [zb, h]; unfold Core.inUnits; rw [Nat.zero_mul]; exact Core.signed_zero t)
  have hv : Core.val64 (FP.ddiv a b) = Core.roundRatio Core.b64 (s != t) c d (q - r) := by
    show Core.val64 (Core.ddiv a b) = _
    rw [Core.val64_ddiv, ea, eb]; show (if d = 0 then _ else _) = _; rw [if_neg d0]
  refine ⟨by omega, s != t, hv.trans (Core.roundRatio_congr (Nat.pos_of_ne_zero d0) (by omega) ?_)⟩
  rw [own_mag, own_mag, ea, eb]
  show c * Core.inUnits d r Core.b64.qmin * _ = Core.inUnits c q Core.b64.qmin * Core.one64 * d * _
  unfold Core.inUnits
  rw [← Core.pow_qmin64]
  have l : c * (d * 2 ^ (r - Core.b64.qmin).toNat) * 2 ^ (q - r - Core.b64.qmin).toNat = c * d * 2 ^ ((r - Core.b64.qmin).toNat + (q - r - Core.b64.qmin).toNat) := by
    rw [Nat.pow_add]; simp only [Nat.mul_assoc, Nat.mul_comm, Nat.mul_left_comm]
  have m : c * 2 ^ (q - Core.b64.qmin).toNat * 2 ^ (-Core.b64.qmin).toNat * d * 2 ^ (Core.b64.qmin - (q - r)).toNat = c * d * 2 ^ ((q - Core.b64.qmin).toNat + (-Core.b64.qmin).toNat + (Core.b64.qmin - (q - r)).toNat) := by
    rw [Nat.pow_add, Nat.pow_add]; simp only [Nat.mul_assoc, Nat.mul_comm, Nat.mul_left_comm]
  rw [l, m]; congr 2; omega
end OwnFloat8
section OwnFloat9
open Jvm.FP Jvm.FP.Core
/-- a quotient by a power of two -/
theorem own_at_divp {c : Int} {j i : Nat} {a b : UInt64} (ha : own_at c (j + i) a) (hb : own_at 1 (1074 + i) b) (h : c.natAbs < 2 ^ 53) (hj : j ≤ 2045) : own_at c j (FP.ddiv a b) := by
  refine own_at_div ha hb (by decide) j ?_ h hj
  rw [Int.mul_one, show j + (1074 + i) = j + i + 1074 by omega]
theorem own_8d : own_at 1 (1074 + 3) (4620693217682128896 : UInt64) := ⟨by rw [Core.fin_bits]; decide, by decide +kernel⟩
theorem own_2d : own_at 1 (1074 + 1) (4611686018427387904 : UInt64) := ⟨by rw [Core.fin_bits]; decide, by decide +kernel⟩
end OwnFloat9
section OwnFloat10
open Jvm.FP Jvm.FP.Core
/-- a lies from 0 to X -/
def own_bd (X : Int) (a : UInt64) : Prop := Core.DFin a ∧ 0 ≤ own_zv a ∧ own_zv a ≤ X * own_U
theorem own_bd_of {N D X : Int} {r : UInt64} (h : own_rnd N D r) (hX : 0 ≤ X) (hX2 : X.natAbs < 2 ^ 53) (hD : 0 ≤ D) (h0 : 0 ≤ N) (h1 : N ≤ X * own_U * D) : own_bd X r := by
  obtain ⟨V, f, z⟩ := own_rep_is X hX2
  have a := h.2.1 0 own_is_0.1.ne_nan (by rw [own_is_0.2, Int.zero_mul, Int.zero_mul]; exact h0)
  have b := h.2.2 V f.ne_nan (by rw [z]; exact h1)
  rw [own_is_0.2, Int.zero_mul] at a
  have p : 0 ≤ X * own_U := Int.mul_nonneg hX (Int.le_of_lt own_U_pos)
  refine ⟨own_fin_of h.1 f (by rw [z] at b ⊢; omega), a, by rw [z] at b; exact b⟩
theorem own_bd_mul {X Y : Int} {a b : UInt64} (ha : own_bd X a) (hb : own_bd Y b) (hX : 0 ≤ X) (hY : 0 ≤ Y) (h : (X * Y).natAbs < 2 ^ 53) : own_bd (X * Y) (FP.dmul a b) := by
  have hU := own_U_pos
  refine own_bd_of (own_dmul_rnd ha.1 hb.1) (Int.mul_nonneg hX hY) h (Int.le_of_lt hU) (Int.mul_nonneg ha.2.1 hb.2.1) ?_
  have e : X * Y * own_U * own_U = (X * own_U) * (Y * own_U) := by simp only [Int.mul_assoc, Int.mul_comm, Int.mul_left_comm]
  rw [e]
  exact Int.mul_le_mul ha.2.2 hb.2.2 hb.2.1 (Int.mul_nonneg hX (Int.le_of_lt hU))
theorem own_bd_add {X Y : Int} {a b : UInt64} (ha : own_bd X a) (hb : own_bd Y b) (hX : 0 ≤ X) (hY : 0 ≤ Y) (h : (X + Y).natAbs < 2 ^ 53) : own_bd (X + Y) (FP.dadd a b) := by
  have h1 := ha.2.1; have h2 := hb.2.1; have h3 := ha.2.2; have h4 := hb.2.2
  refine own_bd_of (own_dadd_rnd ha.1 hb.1) (by omega) h (by decide) (by omega) ?_
  rw [Int.mul_one, Int.add_mul]; omega
theorem own_bd_div {X m : Int} {a b : UInt64} (ha : own_bd X a) (hb : Core.DFin b) (hp : 0 < own_zv b) (hm : own_U ≤ m * own_zv b) (hX : 0 ≤ X) (h0 : 0 ≤ m) (h : (X * m).natAbs < 2 ^ 53) : own_bd (X * m) (FP.ddiv a b) := by
  have hU := own_U_pos
  have hr := own_ddiv_rnd ha.1 hb (by omega)
  rw [if_pos hp, Int.natAbs_of_nonneg (Int.le_of_lt hp)] at hr
  refine own_bd_of hr (Int.mul_nonneg hX h0) h (Int.le_of_lt hp) (Int.mul_nonneg ha.2.1 (Int.le_of_lt hU)) ?_
  have e : X * m * own_U * own_zv b = (X * own_U) * (m * own_zv b) := by simp only [Int.mul_assoc, Int.mul_comm, Int.mul_left_comm]
  rw [e]
  exact Int.mul_le_mul ha.2.2 hm (Int.le_of_lt hU) (Int.mul_nonneg hX (Int.le_of_lt hU))
theorem own_bd_is {i : Int} {a : UInt64} (h : own_is i a) (h0 : 0 ≤ i) {X : Int} (hX : i ≤ X) : own_bd X a := ⟨h.1, by rw [h.2]; exact Int.mul_nonneg h0 (Int.le_of_lt own_U_pos), by rw [h.2]; exact Int.mul_le_mul_of_nonneg_right hX (Int.le_of_lt own_U_pos)⟩
end OwnFloat10

theorem own_pn0 : plainName "com/example/surepath/surepath/LatticesHalvedPinLaw" = true := by first | (simp [plainName, overriddenIn]; done) | decide +kernel
theorem own_d3_0 : decode method_2_code 0 = .ok (.iload_n 2, 1) := by decide +kernel
theorem own_d3_1 : decode method_2_code 1 = .ok (.ifCond .lt 14, 3) := by decide +kernel
theorem own_d3_15 : decode method_2_code 15 = .ok (.dconst 0, 1) := by decide +kernel
theorem own_d3_16 : decode method_2_code 16 = .ok (.dreturn, 1) := by decide +kernel
theorem own_efatA (m : MethodId) (r0 : Addr) (p1 : Int32) (p2 : Int32) : entryFrame m #[(.ref r0), (.int p1), (.int p2)] 3 = mkF m 0 #[.val (.ref r0), .val (.int p1), .val (.int p2)] [] := by first | (simp [entryFrame, mkF, argsToLocals, Value.category]; done) | rfl
def own_QatA (Z : State) (r0 : Addr) (p1 : Int32) (p2 : Int32) (h0 : Heap) (n0 : Nat) (v : Option Value) (h : Heap) (L : List Loc) : Prop := v = some (.double 0) ∧ Fr n0 L ∧ h = h0
set_option maxRecDepth 65536 in
set_option maxHeartbeats 40000000 in
theorem own_rmatA (l : Launch) (Z : State) (a0 : Array Value) (hw : ∀ d ∈ tables_1, d.before a0 Z = true) (ws : List Jvm.Cond) (r0 : Addr) (p1 : Int32) (p2 : Int32) (h0 : Heap) (n0 : Nat) (Z0 : n0 ≤ h0.size) (hc1 : p2 < (0 : Int32)) :
    MetFree l (⟨"com/example/surepath/surepath/LatticesHalvedPinLaw", "at", "([DII)D"⟩ : MethodName) (head1 (Jvm.Cond.code (⟨"com/example/surepath/surepath/LatticesHalvedPinLaw", "at", "([DII)D"⟩ : MethodName) method_2_code 3 (some .double) :: ws) ({ frames := 0, cells := 0, slots := 0, locals := 0 } : Room)) (fun a U => a = #[(.ref r0), (.int p1), (.int p2)] ∧ Z.Warmed39 U.vm ∧ U.heap = h0) (fun _ _ _ _ _ => True) (fun _ U o U' => ∃ v L, o = .returned v ∧ own_QatA Z r0 p1 p2 h0 n0 v U'.heap L ∧ FrameEnd U o U' L ({ frames := 0, cells := 0, slots := 0, locals := 0 } : Room).cells ({ frames := 0, cells := 0, slots := 0, locals := 0 } : Room).slots) := by
  refine MetFree.of_bodySF (plainFor_of_name own_pn0) hisR ?_
  intro p e s m args below meth c s₁ Bd hml0 hP hK
  obtain ⟨rfl, hZ, hh⟩ := hP
  have hx := Bd.exec
  have hby := Bd.bytes
  have hml : c.maxLocals = 3 := hml0
  have hown : s.vm.findClass "com/example/surepath/surepath/LatticesHalvedPinLaw" = some m.cls := findClass_of_methodNamed Bd.named
  have hnm := (name_of_methodNamed Bd.named Bd.method).1
  have X0 : Stand p l e ({ frames := 0, cells := 0, slots := 0, locals := 0 } : Room) s m #[(.ref r0), (.int p1), (.int p2)] below meth c s₁ [] 0 0 := Stand.of_body Bd
  have e0 : s₁.heap = h0 := by rw [← hh, Bd.state]; rfl
  have N0 := Fr.nil n0
  have Zr : h0.size ≤ h0.size := Nat.le_refl _
  have pre0 : ∀ t, Steps p.tables e below (s₁.setTop (mkF m 0 #[.val (.ref r0), .val (.int p1), .val (.int p2)] [])) t → Steps p.tables e below (s₁.setTop (entryFrame m #[(.ref r0), (.int p1), (.int p2)] 3)) t := fun t k => castTop (own_efatA m r0 p1 p2) k
  obtain ⟨fs, hr, hrun, hended, hW, hsame⟩ := X0.leave (v := some (.double 0)) (fun h => by rw [Bd.returns] at h; cases h)
  refine ⟨_, _, pre0 _ (?_), hrun, hended, _, _, rfl, ?_, ⟨_, rfl⟩, hW, hsame.mono (by decide) (by decide)⟩
  · show Steps p.tables e below (s₁.setTop (mkF m 0 #[.val (.ref r0), .val (.int p1), .val (.int p2)] [])) _
    refine XS.iloadN X0.here hx rfl (hb hby own_d3_0) rfl ?_
    refine XS.ifYes X0.here hx rfl (pc0 := 1) (pc' := 15) rfl (hb hby own_d3_1) rfl (XT.i0_lt_t hc1) (by decide) (by decide) ?_
    refine XS.dconst0 X0.here hx rfl (hb hby own_d3_15) (v := (0 : UInt64)) (by decide +kernel) ?_
    show Steps p.tables e below (s₁.setTop (mkF m 16 #[.val (.ref r0), .val (.int p1), .val (.int p2)] [(.double 0)])) _
    exact own_retD X0 hx Bd.returns (hb hby own_d3_16) hr
  · show own_QatA Z r0 p1 p2 h0 n0 _ s₁.heap _
    rw [e0]
    exact ⟨rfl, N0, rfl⟩
theorem own_d3_4 : decode method_2_code 4 = .ok (.iload_n 2, 1) := by decide +kernel
theorem own_d3_5 : decode method_2_code 5 = .ok (.iload_n 1, 1) := by decide +kernel
theorem own_d3_6 : decode method_2_code 6 = .ok (.if_icmp .ge 9, 3) := by decide +kernel
theorem own_efatC (m : MethodId) (r0 : Addr) (p1 : Int32) (p2 : Int32) : entryFrame m #[(.ref r0), (.int p1), (.int p2)] 3 = mkF m 0 #[.val (.ref r0), .val (.int p1), .val (.int p2)] [] := by first | (simp [entryFrame, mkF, argsToLocals, Value.category]; done) | rfl
def own_QatC (Z : State) (r0 : Addr) (p1 : Int32) (p2 : Int32) (h0 : Heap) (n0 : Nat) (v : Option Value) (h : Heap) (L : List Loc) : Prop := v = some (.double 0) ∧ Fr n0 L ∧ h = h0
set_option maxRecDepth 65536 in
set_option maxHeartbeats 40000000 in
theorem own_rmatC (l : Launch) (Z : State) (a0 : Array Value) (hw : ∀ d ∈ tables_1, d.before a0 Z = true) (ws : List Jvm.Cond) (r0 : Addr) (p1 : Int32) (p2 : Int32) (h0 : Heap) (n0 : Nat) (Z0 : n0 ≤ h0.size) (hc1 : ¬ (p2 < (0 : Int32))) (hc6 : ¬ (p2 < p1)) :
    MetFree l (⟨"com/example/surepath/surepath/LatticesHalvedPinLaw", "at", "([DII)D"⟩ : MethodName) (head1 (Jvm.Cond.code (⟨"com/example/surepath/surepath/LatticesHalvedPinLaw", "at", "([DII)D"⟩ : MethodName) method_2_code 3 (some .double) :: ws) ({ frames := 0, cells := 0, slots := 0, locals := 0 } : Room)) (fun a U => a = #[(.ref r0), (.int p1), (.int p2)] ∧ Z.Warmed39 U.vm ∧ U.heap = h0) (fun _ _ _ _ _ => True) (fun _ U o U' => ∃ v L, o = .returned v ∧ own_QatC Z r0 p1 p2 h0 n0 v U'.heap L ∧ FrameEnd U o U' L ({ frames := 0, cells := 0, slots := 0, locals := 0 } : Room).cells ({ frames := 0, cells := 0, slots := 0, locals := 0 } : Room).slots) := by
  refine MetFree.of_bodySF (plainFor_of_name own_pn0) hisR ?_
  intro p e s m args below meth c s₁ Bd hml0 hP hK
  obtain ⟨rfl, hZ, hh⟩ := hP
  have hx := Bd.exec
  have hby := Bd.bytes
  have hml : c.maxLocals = 3 := hml0
  have hown : s.vm.findClass "com/example/surepath/surepath/LatticesHalvedPinLaw" = some m.cls := findClass_of_methodNamed Bd.named
  have hnm := (name_of_methodNamed Bd.named Bd.method).1
  have X0 : Stand p l e ({ frames := 0, cells := 0, slots := 0, locals := 0 } : Room) s m #[(.ref r0), (.int p1), (.int p2)] below meth c s₁ [] 0 0 := Stand.of_body Bd
  have e0 : s₁.heap = h0 := by rw [← hh, Bd.state]; rfl
  have N0 := Fr.nil n0
  have Zr : h0.size ≤ h0.size := Nat.le_refl _
  have pre0 : ∀ t, Steps p.tables e below (s₁.setTop (mkF m 0 #[.val (.ref r0), .val (.int p1), .val (.int p2)] [])) t → Steps p.tables e below (s₁.setTop (entryFrame m #[(.ref r0), (.int p1), (.int p2)] 3)) t := fun t k => castTop (own_efatC m r0 p1 p2) k
  obtain ⟨fs, hr, hrun, hended, hW, hsame⟩ := X0.leave (v := some (.double 0)) (fun h => by rw [Bd.returns] at h; cases h)
  refine ⟨_, _, pre0 _ (?_), hrun, hended, _, _, rfl, ?_, ⟨_, rfl⟩, hW, hsame.mono (by decide) (by decide)⟩
  · show Steps p.tables e below (s₁.setTop (mkF m 0 #[.val (.ref r0), .val (.int p1), .val (.int p2)] [])) _
    refine XS.iloadN X0.here hx rfl (hb hby own_d3_0) rfl ?_
    refine XS.ifNo X0.here hx rfl (hb hby own_d3_1) rfl (XT.i0_lt_f hc1) ?_
    refine XS.iloadN X0.here hx rfl (hb hby own_d3_4) rfl ?_
    refine XS.iloadN X0.here hx rfl (hb hby own_d3_5) rfl ?_
    refine XS.icmpYes X0.here hx rfl (pc0 := 6) (pc' := 15) rfl (hb hby own_d3_6) rfl (XT.ii_ge_t hc6) (by decide) (by decide) ?_
    refine XS.dconst0 X0.here hx rfl (hb hby own_d3_15) (v := (0 : UInt64)) (by decide +kernel) ?_
    show Steps p.tables e below (s₁.setTop (mkF m 16 #[.val (.ref r0), .val (.int p1), .val (.int p2)] [(.double 0)])) _
    exact own_retD X0 hx Bd.returns (hb hby own_d3_16) hr
  · show own_QatC Z r0 p1 p2 h0 n0 _ s₁.heap _
    rw [e0]
    exact ⟨rfl, N0, rfl⟩
theorem own_d3_9 : decode method_2_code 9 = .ok (.aload_n 0, 1) := by decide +kernel
theorem own_d3_10 : decode method_2_code 10 = .ok (.iload_n 2, 1) := by decide +kernel
theorem own_d3_11 : decode method_2_code 11 = .ok (.daload, 1) := by decide +kernel
theorem own_d3_12 : decode method_2_code 12 = .ok (.goto 4, 3) := by decide +kernel
theorem own_efatB0 (m : MethodId) (r0 : Addr) (p1 : Int32) : entryFrame m #[(.ref r0), (.int p1), (.int 0)] 3 = mkF m 0 #[.val (.ref r0), .val (.int p1), .val (.int 0)] [] := by first | (simp [entryFrame, mkF, argsToLocals, Value.category]; done) | rfl
def own_QatB0 (Z : State) (r0 : Addr) (p1 : Int32) (k_r0 : ClassId) (x_r0_0 : UInt64) (x_r0_1 : UInt64) (x_r0_2 : UInt64) (x_r0_3 : UInt64) (x_r0_4 : UInt64) (x_r0_5 : UInt64) (x_r0_6 : UInt64) (x_r0_7 : UInt64) (h0 : Heap) (n0 : Nat) (v : Option Value) (h : Heap) (L : List Loc) : Prop := v = some (.double x_r0_0) ∧ Fr n0 L ∧ h = h0
set_option maxRecDepth 65536 in
set_option maxHeartbeats 40000000 in
theorem own_rmatB0 (l : Launch) (Z : State) (a0 : Array Value) (hw : ∀ d ∈ tables_1, d.before a0 Z = true) (ws : List Jvm.Cond) (r0 : Addr) (p1 : Int32) (k_r0 : ClassId) (x_r0_0 : UInt64) (x_r0_1 : UInt64) (x_r0_2 : UInt64) (x_r0_3 : UInt64) (x_r0_4 : UInt64) (x_r0_5 : UInt64) (x_r0_6 : UInt64) (x_r0_7 : UInt64) (h0 : Heap) (n0 : Nat) (Z0 : n0 ≤ h0.size) (V_r0 : Arv Z h0 r0 k_r0 .double (8 : Int32) [(.double x_r0_0), (.double x_r0_1), (.double x_r0_2), (.double x_r0_3), (.double x_r0_4), (.double x_r0_5), (.double x_r0_6), (.double x_r0_7)] (.double 0)) (hc6 : (0 : Int32) < p1) :
    MetFree l (⟨"com/example/surepath/surepath/LatticesHalvedPinLaw", "at", "([DII)D"⟩ : MethodName) (head1 (Jvm.Cond.code (⟨"com/example/surepath/surepath/LatticesHalvedPinLaw", "at", "([DII)D"⟩ : MethodName) method_2_code 3 (some .double) :: ws) ({ frames := 0, cells := 0, slots := 0, locals := 0 } : Room)) (fun a U => a = #[(.ref r0), (.int p1), (.int 0)] ∧ Z.Warmed39 U.vm ∧ U.heap = h0) (fun _ _ _ _ _ => True) (fun _ U o U' => ∃ v L, o = .returned v ∧ own_QatB0 Z r0 p1 k_r0 x_r0_0 x_r0_1 x_r0_2 x_r0_3 x_r0_4 x_r0_5 x_r0_6 x_r0_7 h0 n0 v U'.heap L ∧ FrameEnd U o U' L ({ frames := 0, cells := 0, slots := 0, locals := 0 } : Room).cells ({ frames := 0, cells := 0, slots := 0, locals := 0 } : Room).slots) := by
  refine MetFree.of_bodySF (plainFor_of_name own_pn0) hisR ?_
  intro p e s m args below meth c s₁ Bd hml0 hP hK
  obtain ⟨rfl, hZ, hh⟩ := hP
  have hx := Bd.exec
  have hby := Bd.bytes
  have hml : c.maxLocals = 3 := hml0
  have hown : s.vm.findClass "com/example/surepath/surepath/LatticesHalvedPinLaw" = some m.cls := findClass_of_methodNamed Bd.named
  have hnm := (name_of_methodNamed Bd.named Bd.method).1
  have X0 : Stand p l e ({ frames := 0, cells := 0, slots := 0, locals := 0 } : Room) s m #[(.ref r0), (.int p1), (.int 0)] below meth c s₁ [] 0 0 := Stand.of_body Bd
  have e0 : s₁.heap = h0 := by rw [← hh, Bd.state]; rfl
  have N0 := Fr.nil n0
  have Zr : h0.size ≤ h0.size := Nat.le_refl _
  have pre0 : ∀ t, Steps p.tables e below (s₁.setTop (mkF m 0 #[.val (.ref r0), .val (.int p1), .val (.int 0)] [])) t → Steps p.tables e below (s₁.setTop (entryFrame m #[(.ref r0), (.int p1), (.int 0)] 3)) t := fun t k => castTop (own_efatB0 m r0 p1) k
  obtain ⟨clo1, Aro1, qo1, So1, No1, Ho1, Go1⟩ := id V_r0
  have hi2 := inb_of (j := (0 : Int32)) So1 ⟨by decide, by decide⟩
  have ha3 : _ = some (Value.double x_r0_0) := Ho1.at hi2 rfl
  obtain ⟨fs, hr, hrun, hended, hW, hsame⟩ := X0.leave (v := some (.double x_r0_0)) (fun h => by rw [Bd.returns] at h; cases h)
  refine ⟨_, _, pre0 _ (?_), hrun, hended, _, _, rfl, ?_, ⟨_, rfl⟩, hW, hsame.mono (by decide) (by decide)⟩
  · show Steps p.tables e below (s₁.setTop (mkF m 0 #[.val (.ref r0), .val (.int p1), .val (.int 0)] [])) _
    refine XS.iloadN X0.here hx rfl (hb hby own_d3_0) rfl ?_
    refine XS.ifNo X0.here hx rfl (hb hby own_d3_1) rfl (XT.i0_lt_f (by decide : ¬ ((0 : Int32) < (0 : Int32)))) ?_
    refine XS.iloadN X0.here hx rfl (hb hby own_d3_4) rfl ?_
    refine XS.iloadN X0.here hx rfl (hb hby own_d3_5) rfl ?_
    refine XS.icmpNo X0.here hx rfl (hb hby own_d3_6) rfl (XT.ii_ge_f hc6) ?_
    refine XS.aloadN X0.here hx rfl (hb hby own_d3_9) rfl rfl ?_
    refine XS.iloadN X0.here hx rfl (hb hby own_d3_10) rfl ?_
    refine X0.daload hx (j := (0 : Int32)) (v := (.double x_r0_0)) (by rw [e0]; exact Aro1.1) (State.isArrayOf_alike hZ.alike Aro1.2.1) Aro1.2.2 hi2 ha3 (g := (mkF m 11 #[.val (.ref r0), .val (.int p1), .val (.int 0)] [(.int 0), (.ref r0)])) rfl rfl (hb hby own_d3_11) _ ?_
    show Steps p.tables e below (s₁.setTop (mkF m 12 #[.val (.ref r0), .val (.int p1), .val (.int 0)] [(.double x_r0_0)])) _
    refine XS.goto X0.here hx rfl (pc0 := 12) (pc' := 16) rfl (hb hby own_d3_12) (by decide) (by decide) ?_
    show Steps p.tables e below (s₁.setTop (mkF m 16 #[.val (.ref r0), .val (.int p1), .val (.int 0)] [(.double x_r0_0)])) _
    exact own_retD X0 hx Bd.returns (hb hby own_d3_16) hr
  · show own_QatB0 Z r0 p1 k_r0 x_r0_0 x_r0_1 x_r0_2 x_r0_3 x_r0_4 x_r0_5 x_r0_6 x_r0_7 h0 n0 _ s₁.heap _
    rw [e0]
    exact ⟨rfl, N0, rfl⟩
theorem own_efatB1 (m : MethodId) (r0 : Addr) (p1 : Int32) : entryFrame m #[(.ref r0), (.int p1), (.int 1)] 3 = mkF m 0 #[.val (.ref r0), .val (.int p1), .val (.int 1)] [] := by first | (simp [entryFrame, mkF, argsToLocals, Value.category]; done) | rfl
def own_QatB1 (Z : State) (r0 : Addr) (p1 : Int32) (k_r0 : ClassId) (x_r0_0 : UInt64) (x_r0_1 : UInt64) (x_r0_2 : UInt64) (x_r0_3 : UInt64) (x_r0_4 : UInt64) (x_r0_5 : UInt64) (x_r0_6 : UInt64) (x_r0_7 : UInt64) (h0 : Heap) (n0 : Nat) (v : Option Value) (h : Heap) (L : List Loc) : Prop := v = some (.double x_r0_1) ∧ Fr n0 L ∧ h = h0
set_option maxRecDepth 65536 in
set_option maxHeartbeats 40000000 in
theorem own_rmatB1 (l : Launch) (Z : State) (a0 : Array Value) (hw : ∀ d ∈ tables_1, d.before a0 Z = true) (ws : List Jvm.Cond) (r0 : Addr) (p1 : Int32) (k_r0 : ClassId) (x_r0_0 : UInt64) (x_r0_1 : UInt64) (x_r0_2 : UInt64) (x_r0_3 : UInt64) (x_r0_4 : UInt64) (x_r0_5 : UInt64) (x_r0_6 : UInt64) (x_r0_7 : UInt64) (h0 : Heap) (n0 : Nat) (Z0 : n0 ≤ h0.size) (V_r0 : Arv Z h0 r0 k_r0 .double (8 : Int32) [(.double x_r0_0), (.double x_r0_1), (.double x_r0_2), (.double x_r0_3), (.double x_r0_4), (.double x_r0_5), (.double x_r0_6), (.double x_r0_7)] (.double 0)) (hc6 : (1 : Int32) < p1) :
    MetFree l (⟨"com/example/surepath/surepath/LatticesHalvedPinLaw", "at", "([DII)D"⟩ : MethodName) (head1 (Jvm.Cond.code (⟨"com/example/surepath/surepath/LatticesHalvedPinLaw", "at", "([DII)D"⟩ : MethodName) method_2_code 3 (some .double) :: ws) ({ frames := 0, cells := 0, slots := 0, locals := 0 } : Room)) (fun a U => a = #[(.ref r0), (.int p1), (.int 1)] ∧ Z.Warmed39 U.vm ∧ U.heap = h0) (fun _ _ _ _ _ => True) (fun _ U o U' => ∃ v L, o = .returned v ∧ own_QatB1 Z r0 p1 k_r0 x_r0_0 x_r0_1 x_r0_2 x_r0_3 x_r0_4 x_r0_5 x_r0_6 x_r0_7 h0 n0 v U'.heap L ∧ FrameEnd U o U' L ({ frames := 0, cells := 0, slots := 0, locals := 0 } : Room).cells ({ frames := 0, cells := 0, slots := 0, locals := 0 } : Room).slots) := by
  refine MetFree.of_bodySF (plainFor_of_name own_pn0) hisR ?_
  intro p e s m args below meth c s₁ Bd hml0 hP hK
  obtain ⟨rfl, hZ, hh⟩ := hP
  have hx := Bd.exec
  have hby := Bd.bytes
  have hml : c.maxLocals = 3 := hml0
  have hown : s.vm.findClass "com/example/surepath/surepath/LatticesHalvedPinLaw" = some m.cls := findClass_of_methodNamed Bd.named
  have hnm := (name_of_methodNamed Bd.named Bd.method).1
  have X0 : Stand p l e ({ frames := 0, cells := 0, slots := 0, locals := 0 } : Room) s m #[(.ref r0), (.int p1), (.int 1)] below meth c s₁ [] 0 0 := Stand.of_body Bd
  have e0 : s₁.heap = h0 := by rw [← hh, Bd.state]; rfl
  have N0 := Fr.nil n0
  have Zr : h0.size ≤ h0.size := Nat.le_refl _
  have pre0 : ∀ t, Steps p.tables e below (s₁.setTop (mkF m 0 #[.val (.ref r0), .val (.int p1), .val (.int 1)] [])) t → Steps p.tables e below (s₁.setTop (entryFrame m #[(.ref r0), (.int p1), (.int 1)] 3)) t := fun t k => castTop (own_efatB1 m r0 p1) k
  obtain ⟨clo1, Aro1, qo1, So1, No1, Ho1, Go1⟩ := id V_r0
  have hi2 := inb_of (j := (1 : Int32)) So1 ⟨by decide, by decide⟩
  have ha3 : _ = some (Value.double x_r0_1) := Ho1.at hi2 rfl
  obtain ⟨fs, hr, hrun, hended, hW, hsame⟩ := X0.leave (v := some (.double x_r0_1)) (fun h => by rw [Bd.returns] at h; cases h)
  refine ⟨_, _, pre0 _ (?_), hrun, hended, _, _, rfl, ?_, ⟨_, rfl⟩, hW, hsame.mono (by decide) (by decide)⟩
  · show Steps p.tables e below (s₁.setTop (mkF m 0 #[.val (.ref r0), .val (.int p1), .val (.int 1)] [])) _
    refine XS.iloadN X0.here hx rfl (hb hby own_d3_0) rfl ?_
    refine XS.ifNo X0.here hx rfl (hb hby own_d3_1) rfl (XT.i0_lt_f (by decide : ¬ ((1 : Int32) < (0 : Int32)))) ?_
    refine XS.iloadN X0.here hx rfl (hb hby own_d3_4) rfl ?_
    refine XS.iloadN X0.here hx rfl (hb hby own_d3_5) rfl ?_
    refine XS.icmpNo X0.here hx rfl (hb hby own_d3_6) rfl (XT.ii_ge_f hc6) ?_
    refine XS.aloadN X0.here hx rfl (hb hby own_d3_9) rfl rfl ?_
    refine XS.iloadN X0.here hx rfl (hb hby own_d3_10) rfl ?_
    refine X0.daload hx (j := (1 : Int32)) (v := (.double x_r0_1)) (by rw [e0]; exact Aro1.1) (State.isArrayOf_alike hZ.alike Aro1.2.1) Aro1.2.2 hi2 ha3 (g := (mkF m 11 #[.val (.ref r0), .val (.int p1), .val (.int 1)] [(.int 1), (.ref r0)])) rfl rfl (hb hby own_d3_11) _ ?_
    show Steps p.tables e below (s₁.setTop (mkF m 12 #[.val (.ref r0), .val (.int p1), .val (.int 1)] [(.double x_r0_1)])) _
    refine XS.goto X0.here hx rfl (pc0 := 12) (pc' := 16) rfl (hb hby own_d3_12) (by decide) (by decide) ?_
    show Steps p.tables e below (s₁.setTop (mkF m 16 #[.val (.ref r0), .val (.int p1), .val (.int 1)] [(.double x_r0_1)])) _
    exact own_retD X0 hx Bd.returns (hb hby own_d3_16) hr
  · show own_QatB1 Z r0 p1 k_r0 x_r0_0 x_r0_1 x_r0_2 x_r0_3 x_r0_4 x_r0_5 x_r0_6 x_r0_7 h0 n0 _ s₁.heap _
    rw [e0]
    exact ⟨rfl, N0, rfl⟩
theorem own_efatB2 (m : MethodId) (r0 : Addr) (p1 : Int32) : entryFrame m #[(.ref r0), (.int p1), (.int 2)] 3 = mkF m 0 #[.val (.ref r0), .val (.int p1), .val (.int 2)] [] := by first | (simp [entryFrame, mkF, argsToLocals, Value.category]; done) | rfl
def own_QatB2 (Z : State) (r0 : Addr) (p1 : Int32) (k_r0 : ClassId) (x_r0_0 : UInt64) (x_r0_1 : UInt64) (x_r0_2 : UInt64) (x_r0_3 : UInt64) (x_r0_4 : UInt64) (x_r0_5 : UInt64) (x_r0_6 : UInt64) (x_r0_7 : UInt64) (h0 : Heap) (n0 : Nat) (v : Option Value) (h : Heap) (L : List Loc) : Prop := v = some (.double x_r0_2) ∧ Fr n0 L ∧ h = h0
set_option maxRecDepth 65536 in
set_option maxHeartbeats 40000000 in
theorem own_rmatB2 (l : Launch) (Z : State) (a0 : Array Value) (hw : ∀ d ∈ tables_1, d.before a0 Z = true) (ws : List Jvm.Cond) (r0 : Addr) (p1 : Int32) (k_r0 : ClassId) (x_r0_0 : UInt64) (x_r0_1 : UInt64) (x_r0_2 : UInt64) (x_r0_3 : UInt64) (x_r0_4 : UInt64) (x_r0_5 : UInt64) (x_r0_6 : UInt64) (x_r0_7 : UInt64) (h0 : Heap) (n0 : Nat) (Z0 : n0 ≤ h0.size) (V_r0 : Arv Z h0 r0 k_r0 .double (8 : Int32) [(.double x_r0_0), (.double x_r0_1), (.double x_r0_2), (.double x_r0_3), (.double x_r0_4), (.double x_r0_5), (.double x_r0_6), (.double x_r0_7)] (.double 0)) (hc6 : (2 : Int32) < p1) :
    MetFree l (⟨"com/example/surepath/surepath/LatticesHalvedPinLaw", "at", "([DII)D"⟩ : MethodName) (head1 (Jvm.Cond.code (⟨"com/example/surepath/surepath/LatticesHalvedPinLaw", "at", "([DII)D"⟩ : MethodName) method_2_code 3 (some .double) :: ws) ({ frames := 0, cells := 0, slots := 0, locals := 0 } : Room)) (fun a U => a = #[(.ref r0), (.int p1), (.int 2)] ∧ Z.Warmed39 U.vm ∧ U.heap = h0) (fun _ _ _ _ _ => True) (fun _ U o U' => ∃ v L, o = .returned v ∧ own_QatB2 Z r0 p1 k_r0 x_r0_0 x_r0_1 x_r0_2 x_r0_3 x_r0_4 x_r0_5 x_r0_6 x_r0_7 h0 n0 v U'.heap L ∧ FrameEnd U o U' L ({ frames := 0, cells := 0, slots := 0, locals := 0 } : Room).cells ({ frames := 0, cells := 0, slots := 0, locals := 0 } : Room).slots) := by
  refine MetFree.of_bodySF (plainFor_of_name own_pn0) hisR ?_
  intro p e s m args below meth c s₁ Bd hml0 hP hK
  obtain ⟨rfl, hZ, hh⟩ := hP
  have hx := Bd.exec
  have hby := Bd.bytes
  have hml : c.maxLocals = 3 := hml0
  have hown : s.vm.findClass "com/example/surepath/surepath/LatticesHalvedPinLaw" = some m.cls := findClass_of_methodNamed Bd.named
  have hnm := (name_of_methodNamed Bd.named Bd.method).1
  have X0 : Stand p l e ({ frames := 0, cells := 0, slots := 0, locals := 0 } : Room) s m #[(.ref r0), (.int p1), (.int 2)] below meth c s₁ [] 0 0 := Stand.of_body Bd
  have e0 : s₁.heap = h0 := by rw [← hh, Bd.state]; rfl
  have N0 := Fr.nil n0
  have Zr : h0.size ≤ h0.size := Nat.le_refl _
  have pre0 : ∀ t, Steps p.tables e below (s₁.setTop (mkF m 0 #[.val (.ref r0), .val (.int p1), .val (.int 2)] [])) t → Steps p.tables e below (s₁.setTop (entryFrame m #[(.ref r0), (.int p1), (.int 2)] 3)) t := fun t k => castTop (own_efatB2 m r0 p1) k
  obtain ⟨clo1, Aro1, qo1, So1, No1, Ho1, Go1⟩ := id V_r0
  have hi2 := inb_of (j := (2 : Int32)) So1 ⟨by decide, by decide⟩
  have ha3 : _ = some (Value.double x_r0_2) := Ho1.at hi2 rfl
  obtain ⟨fs, hr, hrun, hended, hW, hsame⟩ := X0.leave (v := some (.double x_r0_2)) (fun h => by rw [Bd.returns] at h; cases h)
  refine ⟨_, _, pre0 _ (?_), hrun, hended, _, _, rfl, ?_, ⟨_, rfl⟩, hW, hsame.mono (by decide) (by decide)⟩
  · show Steps p.tables e below (s₁.setTop (mkF m 0 #[.val (.ref r0), .val (.int p1), .val (.int 2)] [])) _
    refine XS.iloadN X0.here hx rfl (hb hby own_d3_0) rfl ?_
    refine XS.ifNo X0.here hx rfl (hb hby own_d3_1) rfl (XT.i0_lt_f (by decide : ¬ ((2 : Int32) < (0 : Int32)))) ?_
    refine XS.iloadN X0.here hx rfl (hb hby own_d3_4) rfl ?_
    refine XS.iloadN X0.here hx rfl (hb hby own_d3_5) rfl ?_
    refine XS.icmpNo X0.here hx rfl (hb hby own_d3_6) rfl (XT.ii_ge_f hc6) ?_
    refine XS.aloadN X0.here hx rfl (hb hby own_d3_9) rfl rfl ?_
    refine XS.iloadN X0.here hx rfl (hb hby own_d3_10) rfl ?_
    refine X0.daload hx (j := (2 : Int32)) (v := (.double x_r0_2)) (by rw [e0]; exact Aro1.1) (State.isArrayOf_alike hZ.alike Aro1.2.1) Aro1.2.2 hi2 ha3 (g := (mkF m 11 #[.val (.ref r0), .val (.int p1), .val (.int 2)] [(.int 2), (.ref r0)])) rfl rfl (hb hby own_d3_11) _ ?_
    show Steps p.tables e below (s₁.setTop (mkF m 12 #[.val (.ref r0), .val (.int p1), .val (.int 2)] [(.double x_r0_2)])) _
    refine XS.goto X0.here hx rfl (pc0 := 12) (pc' := 16) rfl (hb hby own_d3_12) (by decide) (by decide) ?_
    show Steps p.tables e below (s₁.setTop (mkF m 16 #[.val (.ref r0), .val (.int p1), .val (.int 2)] [(.double x_r0_2)])) _
    exact own_retD X0 hx Bd.returns (hb hby own_d3_16) hr
  · show own_QatB2 Z r0 p1 k_r0 x_r0_0 x_r0_1 x_r0_2 x_r0_3 x_r0_4 x_r0_5 x_r0_6 x_r0_7 h0 n0 _ s₁.heap _
    rw [e0]
    exact ⟨rfl, N0, rfl⟩
theorem own_efatB3 (m : MethodId) (r0 : Addr) (p1 : Int32) : entryFrame m #[(.ref r0), (.int p1), (.int 3)] 3 = mkF m 0 #[.val (.ref r0), .val (.int p1), .val (.int 3)] [] := by first | (simp [entryFrame, mkF, argsToLocals, Value.category]; done) | rfl
def own_QatB3 (Z : State) (r0 : Addr) (p1 : Int32) (k_r0 : ClassId) (x_r0_0 : UInt64) (x_r0_1 : UInt64) (x_r0_2 : UInt64) (x_r0_3 : UInt64) (x_r0_4 : UInt64) (x_r0_5 : UInt64) (x_r0_6 : UInt64) (x_r0_7 : UInt64) (h0 : Heap) (n0 : Nat) (v : Option Value) (h : Heap) (L : List Loc) : Prop := v = some (.double x_r0_3) ∧ Fr n0 L ∧ h = h0
set_option maxRecDepth 65536 in
set_option maxHeartbeats 40000000 in
theorem own_rmatB3 (l : Launch) (Z : State) (a0 : Array Value) (hw : ∀ d ∈ tables_1, d.before a0 Z = true) (ws : List Jvm.Cond) (r0 : Addr) (p1 : Int32) (k_r0 : ClassId) (x_r0_0 : UInt64) (x_r0_1 : UInt64) (x_r0_2 : UInt64) (x_r0_3 : UInt64) (x_r0_4 : UInt64) (x_r0_5 : UInt64) (x_r0_6 : UInt64) (x_r0_7 : UInt64) (h0 : Heap) (n0 : Nat) (Z0 : n0 ≤ h0.size) (V_r0 : Arv Z h0 r0 k_r0 .double (8 : Int32) [(.double x_r0_0), (.double x_r0_1), (.double x_r0_2), (.double x_r0_3), (.double x_r0_4), (.double x_r0_5), (.double x_r0_6), (.double x_r0_7)] (.double 0)) (hc6 : (3 : Int32) < p1) :
    MetFree l (⟨"com/example/surepath/surepath/LatticesHalvedPinLaw", "at", "([DII)D"⟩ : MethodName) (head1 (Jvm.Cond.code (⟨"com/example/surepath/surepath/LatticesHalvedPinLaw", "at", "([DII)D"⟩ : MethodName) method_2_code 3 (some .double) :: ws) ({ frames := 0, cells := 0, slots := 0, locals := 0 } : Room)) (fun a U => a = #[(.ref r0), (.int p1), (.int 3)] ∧ Z.Warmed39 U.vm ∧ U.heap = h0) (fun _ _ _ _ _ => True) (fun _ U o U' => ∃ v L, o = .returned v ∧ own_QatB3 Z r0 p1 k_r0 x_r0_0 x_r0_1 x_r0_2 x_r0_3 x_r0_4 x_r0_5 x_r0_6 x_r0_7 h0 n0 v U'.heap L ∧ FrameEnd U o U' L ({ frames := 0, cells := 0, slots := 0, locals := 0 } : Room).cells ({ frames := 0, cells := 0, slots := 0, locals := 0 } : Room).slots) := by
  refine MetFree.of_bodySF (plainFor_of_name own_pn0) hisR ?_
  intro p e s m args below meth c s₁ Bd hml0 hP hK
  obtain ⟨rfl, hZ, hh⟩ := hP
  have hx := Bd.exec
  have hby := Bd.bytes
  have hml : c.maxLocals = 3 := hml0
  have hown : s.vm.findClass "com/example/surepath/surepath/LatticesHalvedPinLaw" = some m.cls := findClass_of_methodNamed Bd.named
  have hnm := (name_of_methodNamed Bd.named Bd.method).1
  have X0 : Stand p l e ({ frames := 0, cells := 0, slots := 0, locals := 0 } : Room) s m #[(.ref r0), (.int p1), (.int 3)] below meth c s₁ [] 0 0 := Stand.of_body Bd
  have e0 : s₁.heap = h0 := by rw [← hh, Bd.state]; rfl
  have N0 := Fr.nil n0
  have Zr : h0.size ≤ h0.size := Nat.le_refl _
  have pre0 : ∀ t, Steps p.tables e below (s₁.setTop (mkF m 0 #[.val (.ref r0), .val (.int p1), .val (.int 3)] [])) t → Steps p.tables e below (s₁.setTop (entryFrame m #[(.ref r0), (.int p1), (.int 3)] 3)) t := fun t k => castTop (own_efatB3 m r0 p1) k
  obtain ⟨clo1, Aro1, qo1, So1, No1, Ho1, Go1⟩ := id V_r0
  have hi2 := inb_of (j := (3 : Int32)) So1 ⟨by decide, by decide⟩
  have ha3 : _ = some (Value.double x_r0_3) := Ho1.at hi2 rfl
  obtain ⟨fs, hr, hrun, hended, hW, hsame⟩ := X0.leave (v := some (.double x_r0_3)) (fun h => by rw [Bd.returns] at h; cases h)
  refine ⟨_, _, pre0 _ (?_), hrun, hended, _, _, rfl, ?_, ⟨_, rfl⟩, hW, hsame.mono (by decide) (by decide)⟩
  · show Steps p.tables e below (s₁.setTop (mkF m 0 #[.val (.ref r0), .val (.int p1), .val (.int 3)] [])) _
    refine XS.iloadN X0.here hx rfl (hb hby own_d3_0) rfl ?_
    refine XS.ifNo X0.here hx rfl (hb hby own_d3_1) rfl (XT.i0_lt_f (by decide : ¬ ((3 : Int32) < (0 : Int32)))) ?_
    refine XS.iloadN X0.here hx rfl (hb hby own_d3_4) rfl ?_
    refine XS.iloadN X0.here hx rfl (hb hby own_d3_5) rfl ?_
    refine XS.icmpNo X0.here hx rfl (hb hby own_d3_6) rfl (XT.ii_ge_f hc6) ?_
    refine XS.aloadN X0.here hx rfl (hb hby own_d3_9) rfl rfl ?_
    refine XS.iloadN X0.here hx rfl (hb hby own_d3_10) rfl ?_
    refine X0.daload hx (j := (3 : Int32)) (v := (.double x_r0_3)) (by rw [e0]; exact Aro1.1) (State.isArrayOf_alike hZ.alike Aro1.2.1) Aro1.2.2 hi2 ha3 (g := (mkF m 11 #[.val (.ref r0), .val (.int p1), .val (.int 3)] [(.int 3), (.ref r0)])) rfl rfl (hb hby own_d3_11) _ ?_
    show Steps p.tables e below (s₁.setTop (mkF m 12 #[.val (.ref r0), .val (.int p1), .val (.int 3)] [(.double x_r0_3)])) _
    refine XS.goto X0.here hx rfl (pc0 := 12) (pc' := 16) rfl (hb hby own_d3_12) (by decide) (by decide) ?_
    show Steps p.tables e below (s₁.setTop (mkF m 16 #[.val (.ref r0), .val (.int p1), .val (.int 3)] [(.double x_r0_3)])) _
    exact own_retD X0 hx Bd.returns (hb hby own_d3_16) hr
  · show own_QatB3 Z r0 p1 k_r0 x_r0_0 x_r0_1 x_r0_2 x_r0_3 x_r0_4 x_r0_5 x_r0_6 x_r0_7 h0 n0 _ s₁.heap _
    rw [e0]
    exact ⟨rfl, N0, rfl⟩
theorem own_efatB4 (m : MethodId) (r0 : Addr) (p1 : Int32) : entryFrame m #[(.ref r0), (.int p1), (.int 4)] 3 = mkF m 0 #[.val (.ref r0), .val (.int p1), .val (.int 4)] [] := by first | (simp [entryFrame, mkF, argsToLocals, Value.category]; done) | rfl
def own_QatB4 (Z : State) (r0 : Addr) (p1 : Int32) (k_r0 : ClassId) (x_r0_0 : UInt64) (x_r0_1 : UInt64) (x_r0_2 : UInt64) (x_r0_3 : UInt64) (x_r0_4 : UInt64) (x_r0_5 : UInt64) (x_r0_6 : UInt64) (x_r0_7 : UInt64) (h0 : Heap) (n0 : Nat) (v : Option Value) (h : Heap) (L : List Loc) : Prop := v = some (.double x_r0_4) ∧ Fr n0 L ∧ h = h0
set_option maxRecDepth 65536 in
set_option maxHeartbeats 40000000 in
theorem own_rmatB4 (l : Launch) (Z : State) (a0 : Array Value) (hw : ∀ d ∈ tables_1, d.before a0 Z = true) (ws : List Jvm.Cond) (r0 : Addr) (p1 : Int32) (k_r0 : ClassId) (x_r0_0 : UInt64) (x_r0_1 : UInt64) (x_r0_2 : UInt64) (x_r0_3 : UInt64) (x_r0_4 : UInt64) (x_r0_5 : UInt64) (x_r0_6 : UInt64) (x_r0_7 : UInt64) (h0 : Heap) (n0 : Nat) (Z0 : n0 ≤ h0.size) (V_r0 : Arv Z h0 r0 k_r0 .double (8 : Int32) [(.double x_r0_0), (.double x_r0_1), (.double x_r0_2), (.double x_r0_3), (.double x_r0_4), (.double x_r0_5), (.double x_r0_6), (.double x_r0_7)] (.double 0)) (hc6 : (4 : Int32) < p1) :
    MetFree l (⟨"com/example/surepath/surepath/LatticesHalvedPinLaw", "at", "([DII)D"⟩ : MethodName) (head1 (Jvm.Cond.code (⟨"com/example/surepath/surepath/LatticesHalvedPinLaw", "at", "([DII)D"⟩ : MethodName) method_2_code 3 (some .double) :: ws) ({ frames := 0, cells := 0, slots := 0, locals := 0 } : Room)) (fun a U => a = #[(.ref r0), (.int p1), (.int 4)] ∧ Z.Warmed39 U.vm ∧ U.heap = h0) (fun _ _ _ _ _ => True) (fun _ U o U' => ∃ v L, o = .returned v ∧ own_QatB4 Z r0 p1 k_r0 x_r0_0 x_r0_1 x_r0_2 x_r0_3 x_r0_4 x_r0_5 x_r0_6 x_r0_7 h0 n0 v U'.heap L ∧ FrameEnd U o U' L ({ frames := 0, cells := 0, slots := 0, locals := 0 } : Room).cells ({ frames := 0, cells := 0, slots := 0, locals := 0 } : Room).slots) := by
  refine MetFree.of_bodySF (plainFor_of_name own_pn0) hisR ?_
  intro p e s m args below meth c s₁ Bd hml0 hP hK
  obtain ⟨rfl, hZ, hh⟩ := hP
  have hx := Bd.exec
  have hby := Bd.bytes
  have hml : c.maxLocals = 3 := hml0
  have hown : s.vm.findClass "com/example/surepath/surepath/LatticesHalvedPinLaw" = some m.cls := findClass_of_methodNamed Bd.named
  have hnm := (name_of_methodNamed Bd.named Bd.method).1
  have X0 : Stand p l e ({ frames := 0, cells := 0, slots := 0, locals := 0 } : Room) s m #[(.ref r0), (.int p1), (.int 4)] below meth c s₁ [] 0 0 := Stand.of_body Bd
  have e0 : s₁.heap = h0 := by rw [← hh, Bd.state]; rfl
  have N0 := Fr.nil n0
  have Zr : h0.size ≤ h0.size := Nat.le_refl _
  have pre0 : ∀ t, Steps p.tables e below (s₁.setTop (mkF m 0 #[.val (.ref r0), .val (.int p1), .val (.int 4)] [])) t → Steps p.tables e below (s₁.setTop (entryFrame m #[(.ref r0), (.int p1), (.int 4)] 3)) t := fun t k => castTop (own_efatB4 m r0 p1) k
  obtain ⟨clo1, Aro1, qo1, So1, No1, Ho1, Go1⟩ := id V_r0
  have hi2 := inb_of (j := (4 : Int32)) So1 ⟨by decide, by decide⟩
  have ha3 : _ = some (Value.double x_r0_4) := Ho1.at hi2 rfl
  obtain ⟨fs, hr, hrun, hended, hW, hsame⟩ := X0.leave (v := some (.double x_r0_4)) (fun h => by rw [Bd.returns] at h; cases h)
  refine ⟨_, _, pre0 _ (?_), hrun, hended, _, _, rfl, ?_, ⟨_, rfl⟩, hW, hsame.mono (by decide) (by decide)⟩
  · show Steps p.tables e below (s₁.setTop (mkF m 0 #[.val (.ref r0), .val (.int p1), .val (.int 4)] [])) _
    refine XS.iloadN X0.here hx rfl (hb hby own_d3_0) rfl ?_
    refine XS.ifNo X0.here hx rfl (hb hby own_d3_1) rfl (XT.i0_lt_f (by decide : ¬ ((4 : Int32) < (0 : Int32)))) ?_
    refine XS.iloadN X0.here hx rfl (hb hby own_d3_4) rfl ?_
    refine XS.iloadN X0.here hx rfl (hb hby own_d3_5) rfl ?_
    refine XS.icmpNo X0.here hx rfl (hb hby own_d3_6) rfl (XT.ii_ge_f hc6) ?_
    refine XS.aloadN X0.here hx rfl (hb hby own_d3_9) rfl rfl ?_
    refine XS.iloadN X0.here hx rfl (hb hby own_d3_10) rfl ?_
    refine X0.daload hx (j := (4 : Int32)) (v := (.double x_r0_4)) (by rw [e0]; exact Aro1.1) (State.isArrayOf_alike hZ.alike Aro1.2.1) Aro1.2.2 hi2 ha3 (g := (mkF m 11 #[.val (.ref r0), .val (.int p1), .val (.int 4)] [(.int 4), (.ref r0)])) rfl rfl (hb hby own_d3_11) _ ?_
    show Steps p.tables e below (s₁.setTop (mkF m 12 #[.val (.ref r0), .val (.int p1), .val (.int 4)] [(.double x_r0_4)])) _
    refine XS.goto X0.here hx rfl (pc0 := 12) (pc' := 16) rfl (hb hby own_d3_12) (by decide) (by decide) ?_
    show Steps p.tables e below (s₁.setTop (mkF m 16 #[.val (.ref r0), .val (.int p1), .val (.int 4)] [(.double x_r0_4)])) _
    exact own_retD X0 hx Bd.returns (hb hby own_d3_16) hr
  · show own_QatB4 Z r0 p1 k_r0 x_r0_0 x_r0_1 x_r0_2 x_r0_3 x_r0_4 x_r0_5 x_r0_6 x_r0_7 h0 n0 _ s₁.heap _
    rw [e0]
    exact ⟨rfl, N0, rfl⟩
theorem own_efatB5 (m : MethodId) (r0 : Addr) (p1 : Int32) : entryFrame m #[(.ref r0), (.int p1), (.int 5)] 3 = mkF m 0 #[.val (.ref r0), .val (.int p1), .val (.int 5)] [] := by first | (simp [entryFrame, mkF, argsToLocals, Value.category]; done) | rfl
def own_QatB5 (Z : State) (r0 : Addr) (p1 : Int32) (k_r0 : ClassId) (x_r0_0 : UInt64) (x_r0_1 : UInt64) (x_r0_2 : UInt64) (x_r0_3 : UInt64) (x_r0_4 : UInt64) (x_r0_5 : UInt64) (x_r0_6 : UInt64) (x_r0_7 : UInt64) (h0 : Heap) (n0 : Nat) (v : Option Value) (h : Heap) (L : List Loc) : Prop := v = some (.double x_r0_5) ∧ Fr n0 L ∧ h = h0
set_option maxRecDepth 65536 in
set_option maxHeartbeats 40000000 in
theorem own_rmatB5 (l : Launch) (Z : State) (a0 : Array Value) (hw : ∀ d ∈ tables_1, d.before a0 Z = true) (ws : List Jvm.Cond) (r0 : Addr) (p1 : Int32) (k_r0 : ClassId) (x_r0_0 : UInt64) (x_r0_1 : UInt64) (x_r0_2 : UInt64) (x_r0_3 : UInt64) (x_r0_4 : UInt64) (x_r0_5 : UInt64) (x_r0_6 : UInt64) (x_r0_7 : UInt64) (h0 : Heap) (n0 : Nat) (Z0 : n0 ≤ h0.size) (V_r0 : Arv Z h0 r0 k_r0 .double (8 : Int32) [(.double x_r0_0), (.double x_r0_1), (.double x_r0_2), (.double x_r0_3), (.double x_r0_4), (.double x_r0_5), (.double x_r0_6), (.double x_r0_7)] (.double 0)) (hc6 : (5 : Int32) < p1) :
    MetFree l (⟨"com/example/surepath/surepath/LatticesHalvedPinLaw", "at", "([DII)D"⟩ : MethodName) (head1 (Jvm.Cond.code (⟨"com/example/surepath/surepath/LatticesHalvedPinLaw", "at", "([DII)D"⟩ : MethodName) method_2_code 3 (some .double) :: ws) ({ frames := 0, cells := 0, slots := 0, locals := 0 } : Room)) (fun a U => a = #[(.ref r0), (.int p1), (.int 5)] ∧ Z.Warmed39 U.vm ∧ U.heap = h0) (fun _ _ _ _ _ => True) (fun _ U o U' => ∃ v L, o = .returned v ∧ own_QatB5 Z r0 p1 k_r0 x_r0_0 x_r0_1 x_r0_2 x_r0_3 x_r0_4 x_r0_5 x_r0_6 x_r0_7 h0 n0 v U'.heap L ∧ FrameEnd U o U' L ({ frames := 0, cells := 0, slots := 0, locals := 0 } : Room).cells ({ frames := 0, cells := 0, slots := 0, locals := 0 } : Room).slots) := by
  refine MetFree.of_bodySF (plainFor_of_name own_pn0) hisR ?_
  intro p e s m args below meth c s₁ Bd hml0 hP hK
  obtain ⟨rfl, hZ, hh⟩ := hP
  have hx := Bd.exec
  have hby := Bd.bytes
  have hml : c.maxLocals = 3 := hml0
  have hown : s.vm.findClass "com/example/surepath/surepath/LatticesHalvedPinLaw" = some m.cls := findClass_of_methodNamed Bd.named
  have hnm := (name_of_methodNamed Bd.named Bd.method).1
  have X0 : Stand p l e ({ frames := 0, cells := 0, slots := 0, locals := 0 } : Room) s m #[(.ref r0), (.int p1), (.int 5)] below meth c s₁ [] 0 0 := Stand.of_body Bd
  have e0 : s₁.heap = h0 := by rw [← hh, Bd.state]; rfl
  have N0 := Fr.nil n0
  have Zr : h0.size ≤ h0.size := Nat.le_refl _
  have pre0 : ∀ t, Steps p.tables e below (s₁.setTop (mkF m 0 #[.val (.ref r0), .val (.int p1), .val (.int 5)] [])) t → Steps p.tables e below (s₁.setTop (entryFrame m #[(.ref r0), (.int p1), (.int 5)] 3)) t := fun t k => castTop (own_efatB5 m r0 p1) k
  obtain ⟨clo1, Aro1, qo1, So1, No1, Ho1, Go1⟩ := id V_r0
  have hi2 := inb_of (j := (5 : Int32)) So1 ⟨by decide, by decide⟩
  have ha3 : _ = some (Value.double x_r0_5) := Ho1.at hi2 rfl
  obtain ⟨fs, hr, hrun, hended, hW, hsame⟩ := X0.leave (v := some (.double x_r0_5)) (fun h => by rw [Bd.returns] at h; cases h)
  refine ⟨_, _, pre0 _ (?_), hrun, hended, _, _, rfl, ?_, ⟨_, rfl⟩, hW, hsame.mono (by decide) (by decide)⟩
  · show Steps p.tables e below (s₁.setTop (mkF m 0 #[.val (.ref r0), .val (.int p1), .val (.int 5)] [])) _
    refine XS.iloadN X0.here hx rfl (hb hby own_d3_0) rfl ?_
    refine XS.ifNo X0.here hx rfl (hb hby own_d3_1) rfl (XT.i0_lt_f (by decide : ¬ ((5 : Int32) < (0 : Int32)))) ?_
    refine XS.iloadN X0.here hx rfl (hb hby own_d3_4) rfl ?_
    refine XS.iloadN X0.here hx rfl (hb hby own_d3_5) rfl ?_
    refine XS.icmpNo X0.here hx rfl (hb hby own_d3_6) rfl (XT.ii_ge_f hc6) ?_
    refine XS.aloadN X0.here hx rfl (hb hby own_d3_9) rfl rfl ?_
    refine XS.iloadN X0.here hx rfl (hb hby own_d3_10) rfl ?_
    refine X0.daload hx (j := (5 : Int32)) (v := (.double x_r0_5)) (by rw [e0]; exact Aro1.1) (State.isArrayOf_alike hZ.alike Aro1.2.1) Aro1.2.2 hi2 ha3 (g := (mkF m 11 #[.val (.ref r0), .val (.int p1), .val (.int 5)] [(.int 5), (.ref r0)])) rfl rfl (hb hby own_d3_11) _ ?_
    show Steps p.tables e below (s₁.setTop (mkF m 12 #[.val (.ref r0), .val (.int p1), .val (.int 5)] [(.double x_r0_5)])) _
    refine XS.goto X0.here hx rfl (pc0 := 12) (pc' := 16) rfl (hb hby own_d3_12) (by decide) (by decide) ?_
    show Steps p.tables e below (s₁.setTop (mkF m 16 #[.val (.ref r0), .val (.int p1), .val (.int 5)] [(.double x_r0_5)])) _
    exact own_retD X0 hx Bd.returns (hb hby own_d3_16) hr
  · show own_QatB5 Z r0 p1 k_r0 x_r0_0 x_r0_1 x_r0_2 x_r0_3 x_r0_4 x_r0_5 x_r0_6 x_r0_7 h0 n0 _ s₁.heap _
    rw [e0]
    exact ⟨rfl, N0, rfl⟩
theorem own_efatB6 (m : MethodId) (r0 : Addr) (p1 : Int32) : entryFrame m #[(.ref r0), (.int p1), (.int 6)] 3 = mkF m 0 #[.val (.ref r0), .val (.int p1), .val (.int 6)] [] := by first | (simp [entryFrame, mkF, argsToLocals, Value.category]; done) | rfl
def own_QatB6 (Z : State) (r0 : Addr) (p1 : Int32) (k_r0 : ClassId) (x_r0_0 : UInt64) (x_r0_1 : UInt64) (x_r0_2 : UInt64) (x_r0_3 : UInt64) (x_r0_4 : UInt64) (x_r0_5 : UInt64) (x_r0_6 : UInt64) (x_r0_7 : UInt64) (h0 : Heap) (n0 : Nat) (v : Option Value) (h : Heap) (L : List Loc) : Prop := v = some (.double x_r0_6) ∧ Fr n0 L ∧ h = h0
set_option maxRecDepth 65536 in
set_option maxHeartbeats 40000000 in
theorem own_rmatB6 (l : Launch) (Z : State) (a0 : Array Value) (hw : ∀ d ∈ tables_1, d.before a0 Z = true) (ws : List Jvm.Cond) (r0 : Addr) (p1 : Int32) (k_r0 : ClassId) (x_r0_0 : UInt64) (x_r0_1 : UInt64) (x_r0_2 : UInt64) (x_r0_3 : UInt64) (x_r0_4 : UInt64) (x_r0_5 : UInt64) (x_r0_6 : UInt64) (x_r0_7 : UInt64) (h0 : Heap) (n0 : Nat) (Z0 : n0 ≤ h0.size) (V_r0 : Arv Z h0 r0 k_r0 .double (8 : Int32) [(.double x_r0_0), (.double x_r0_1), (.double x_r0_2), (.double x_r0_3), (.double x_r0_4), (.double x_r0_5), (.double x_r0_6), (.double x_r0_7)] (.double 0)) (hc6 : (6 : Int32) < p1) :
    MetFree l (⟨"com/example/surepath/surepath/LatticesHalvedPinLaw", "at", "([DII)D"⟩ : MethodName) (head1 (Jvm.Cond.code (⟨"com/example/surepath/surepath/LatticesHalvedPinLaw", "at", "([DII)D"⟩ : MethodName) method_2_code 3 (some .double) :: ws) ({ frames := 0, cells := 0, slots := 0, locals := 0 } : Room)) (fun a U => a = #[(.ref r0), (.int p1), (.int 6)] ∧ Z.Warmed39 U.vm ∧ U.heap = h0) (fun _ _ _ _ _ => True) (fun _ U o U' => ∃ v L, o = .returned v ∧ own_QatB6 Z r0 p1 k_r0 x_r0_0 x_r0_1 x_r0_2 x_r0_3 x_r0_4 x_r0_5 x_r0_6 x_r0_7 h0 n0 v U'.heap L ∧ FrameEnd U o U' L ({ frames := 0, cells := 0, slots := 0, locals := 0 } : Room).cells ({ frames := 0, cells := 0, slots := 0, locals := 0 } : Room).slots) := by
  refine MetFree.of_bodySF (plainFor_of_name own_pn0) hisR ?_
  intro p e s m args below meth c s₁ Bd hml0 hP hK
  obtain ⟨rfl, hZ, hh⟩ := hP
  have hx := Bd.exec
  have hby := Bd.bytes
  have hml : c.maxLocals = 3 := hml0
  have hown : s.vm.findClass "com/example/surepath/surepath/LatticesHalvedPinLaw" = some m.cls := findClass_of_methodNamed Bd.named
  have hnm := (name_of_methodNamed Bd.named Bd.method).1
  have X0 : Stand p l e ({ frames := 0, cells := 0, slots := 0, locals := 0 } : Room) s m #[(.ref r0), (.int p1), (.int 6)] below meth c s₁ [] 0 0 := Stand.of_body Bd
  have e0 : s₁.heap = h0 := by rw [← hh, Bd.state]; rfl
  have N0 := Fr.nil n0
  have Zr : h0.size ≤ h0.size := Nat.le_refl _
  have pre0 : ∀ t, Steps p.tables e below (s₁.setTop (mkF m 0 #[.val (.ref r0), .val (.int p1), .val (.int 6)] [])) t → Steps p.tables e below (s₁.setTop (entryFrame m #[(.ref r0), (.int p1), (.int 6)] 3)) t := fun t k => castTop (own_efatB6 m r0 p1) k
  obtain ⟨clo1, Aro1, qo1, So1, No1, Ho1, Go1⟩ := id V_r0
  have hi2 := inb_of (j := (6 : Int32)) So1 ⟨by decide, by decide⟩
  have ha3 : _ = some (Value.double x_r0_6) := Ho1.at hi2 rfl
  obtain ⟨fs, hr, hrun, hended, hW, hsame⟩ := X0.leave (v := some (.double x_r0_6)) (fun h => by rw [Bd.returns] at h; cases h)
  refine ⟨_, _, pre0 _ (?_), hrun, hended, _, _, rfl, ?_, ⟨_, rfl⟩, hW, hsame.mono (by decide) (by decide)⟩
  · show Steps p.tables e below (s₁.setTop (mkF m 0 #[.val (.ref r0), .val (.int p1), .val (.int 6)] [])) _
    refine XS.iloadN X0.here hx rfl (hb hby own_d3_0) rfl ?_
    refine XS.ifNo X0.here hx rfl (hb hby own_d3_1) rfl (XT.i0_lt_f (by decide : ¬ ((6 : Int32) < (0 : Int32)))) ?_
    refine XS.iloadN X0.here hx rfl (hb hby own_d3_4) rfl ?_
    refine XS.iloadN X0.here hx rfl (hb hby own_d3_5) rfl ?_
    refine XS.icmpNo X0.here hx rfl (hb hby own_d3_6) rfl (XT.ii_ge_f hc6) ?_
    refine XS.aloadN X0.here hx rfl (hb hby own_d3_9) rfl rfl ?_
    refine XS.iloadN X0.here hx rfl (hb hby own_d3_10) rfl ?_
    refine X0.daload hx (j := (6 : Int32)) (v := (.double x_r0_6)) (by rw [e0]; exact Aro1.1) (State.isArrayOf_alike hZ.alike Aro1.2.1) Aro1.2.2 hi2 ha3 (g := (mkF m 11 #[.val (.ref r0), .val (.int p1), .val (.int 6)] [(.int 6), (.ref r0)])) rfl rfl (hb hby own_d3_11) _ ?_
    show Steps p.tables e below (s₁.setTop (mkF m 12 #[.val (.ref r0), .val (.int p1), .val (.int 6)] [(.double x_r0_6)])) _
    refine XS.goto X0.here hx rfl (pc0 := 12) (pc' := 16) rfl (hb hby own_d3_12) (by decide) (by decide) ?_
    show Steps p.tables e below (s₁.setTop (mkF m 16 #[.val (.ref r0), .val (.int p1), .val (.int 6)] [(.double x_r0_6)])) _
    exact own_retD X0 hx Bd.returns (hb hby own_d3_16) hr
  · show own_QatB6 Z r0 p1 k_r0 x_r0_0 x_r0_1 x_r0_2 x_r0_3 x_r0_4 x_r0_5 x_r0_6 x_r0_7 h0 n0 _ s₁.heap _
    rw [e0]
    exact ⟨rfl, N0, rfl⟩
theorem own_efatB7 (m : MethodId) (r0 : Addr) (p1 : Int32) : entryFrame m #[(.ref r0), (.int p1), (.int 7)] 3 = mkF m 0 #[.val (.ref r0), .val (.int p1), .val (.int 7)] [] := by first | (simp [entryFrame, mkF, argsToLocals, Value.category]; done) | rfl
def own_QatB7 (Z : State) (r0 : Addr) (p1 : Int32) (k_r0 : ClassId) (x_r0_0 : UInt64) (x_r0_1 : UInt64) (x_r0_2 : UInt64) (x_r0_3 : UInt64) (x_r0_4 : UInt64) (x_r0_5 : UInt64) (x_r0_6 : UInt64) (x_r0_7 : UInt64) (h0 : Heap) (n0 : Nat) (v : Option Value) (h : Heap) (L : List Loc) : Prop := v = some (.double x_r0_7) ∧ Fr n0 L ∧ h = h0
set_option maxRecDepth 65536 in
set_option maxHeartbeats 40000000 in
theorem own_rmatB7 (l : Launch) (Z : State) (a0 : Array Value) (hw : ∀ d ∈ tables_1, d.before a0 Z = true) (ws : List Jvm.Cond) (r0 : Addr) (p1 : Int32) (k_r0 : ClassId) (x_r0_0 : UInt64) (x_r0_1 : UInt64) (x_r0_2 : UInt64) (x_r0_3 : UInt64) (x_r0_4 : UInt64) (x_r0_5 : UInt64) (x_r0_6 : UInt64) (x_r0_7 : UInt64) (h0 : Heap) (n0 : Nat) (Z0 : n0 ≤ h0.size) (V_r0 : Arv Z h0 r0 k_r0 .double (8 : Int32) [(.double x_r0_0), (.double x_r0_1), (.double x_r0_2), (.double x_r0_3), (.double x_r0_4), (.double x_r0_5), (.double x_r0_6), (.double x_r0_7)] (.double 0)) (hc6 : (7 : Int32) < p1) :
    MetFree l (⟨"com/example/surepath/surepath/LatticesHalvedPinLaw", "at", "([DII)D"⟩ : MethodName) (head1 (Jvm.Cond.code (⟨"com/example/surepath/surepath/LatticesHalvedPinLaw", "at", "([DII)D"⟩ : MethodName) method_2_code 3 (some .double) :: ws) ({ frames := 0, cells := 0, slots := 0, locals := 0 } : Room)) (fun a U => a = #[(.ref r0), (.int p1), (.int 7)] ∧ Z.Warmed39 U.vm ∧ U.heap = h0) (fun _ _ _ _ _ => True) (fun _ U o U' => ∃ v L, o = .returned v ∧ own_QatB7 Z r0 p1 k_r0 x_r0_0 x_r0_1 x_r0_2 x_r0_3 x_r0_4 x_r0_5 x_r0_6 x_r0_7 h0 n0 v U'.heap L ∧ FrameEnd U o U' L ({ frames := 0, cells := 0, slots := 0, locals := 0 } : Room).cells ({ frames := 0, cells := 0, slots := 0, locals := 0 } : Room).slots) := by
  refine MetFree.of_bodySF (plainFor_of_name own_pn0) hisR ?_
  intro p e s m args below meth c s₁ Bd hml0 hP hK
  obtain ⟨rfl, hZ, hh⟩ := hP
  have hx := Bd.exec
  have hby := Bd.bytes
  have hml : c.maxLocals = 3 := hml0
  have hown : s.vm.findClass "com/example/surepath/surepath/LatticesHalvedPinLaw" = some m.cls := findClass_of_methodNamed Bd.named
  have hnm := (name_of_methodNamed Bd.named Bd.method).1
  have X0 : Stand p l e ({ frames := 0, cells := 0, slots := 0, locals := 0 } : Room) s m #[(.ref r0), (.int p1), (.int 7)] below meth c s₁ [] 0 0 := Stand.of_body Bd
  have e0 : s₁.heap = h0 := by rw [← hh, Bd.state]; rfl
  have N0 := Fr.nil n0
  have Zr : h0.size ≤ h0.size := Nat.le_refl _
  have pre0 : ∀ t, Steps p.tables e below (s₁.setTop (mkF m 0 #[.val (.ref r0), .val (.int p1), .val (.int 7)] [])) t → Steps p.tables e below (s₁.setTop (entryFrame m #[(.ref r0), (.int p1), (.int 7)] 3)) t := fun t k => castTop (own_efatB7 m r0 p1) k
  obtain ⟨clo1, Aro1, qo1, So1, No1, Ho1, Go1⟩ := id V_r0
  have hi2 := inb_of (j := (7 : Int32)) So1 ⟨by decide, by decide⟩
  have ha3 : _ = some (Value.double x_r0_7) := Ho1.at hi2 rfl
  obtain ⟨fs, hr, hrun, hended, hW, hsame⟩ := X0.leave (v := some (.double x_r0_7)) (fun h => by rw [Bd.returns] at h; cases h)
  refine ⟨_, _, pre0 _ (?_), hrun, hended, _, _, rfl, ?_, ⟨_, rfl⟩, hW, hsame.mono (by decide) (by decide)⟩
  · show Steps p.tables e below (s₁.setTop (mkF m 0 #[.val (.ref r0), .val (.int p1), .val (.int 7)] [])) _
    refine XS.iloadN X0.here hx rfl (hb hby own_d3_0) rfl ?_
    refine XS.ifNo X0.here hx rfl (hb hby own_d3_1) rfl (XT.i0_lt_f (by decide : ¬ ((7 : Int32) < (0 : Int32)))) ?_
    refine XS.iloadN X0.here hx rfl (hb hby own_d3_4) rfl ?_
    refine XS.iloadN X0.here hx rfl (hb hby own_d3_5) rfl ?_
    refine XS.icmpNo X0.here hx rfl (hb hby own_d3_6) rfl (XT.ii_ge_f hc6) ?_
    refine XS.aloadN X0.here hx rfl (hb hby own_d3_9) rfl rfl ?_
    refine XS.iloadN X0.here hx rfl (hb hby own_d3_10) rfl ?_
    refine X0.daload hx (j := (7 : Int32)) (v := (.double x_r0_7)) (by rw [e0]; exact Aro1.1) (State.isArrayOf_alike hZ.alike Aro1.2.1) Aro1.2.2 hi2 ha3 (g := (mkF m 11 #[.val (.ref r0), .val (.int p1), .val (.int 7)] [(.int 7), (.ref r0)])) rfl rfl (hb hby own_d3_11) _ ?_
    show Steps p.tables e below (s₁.setTop (mkF m 12 #[.val (.ref r0), .val (.int p1), .val (.int 7)] [(.double x_r0_7)])) _
    refine XS.goto X0.here hx rfl (pc0 := 12) (pc' := 16) rfl (hb hby own_d3_12) (by decide) (by decide) ?_
    show Steps p.tables e below (s₁.setTop (mkF m 16 #[.val (.ref r0), .val (.int p1), .val (.int 7)] [(.double x_r0_7)])) _
    exact own_retD X0 hx Bd.returns (hb hby own_d3_16) hr
  · show own_QatB7 Z r0 p1 k_r0 x_r0_0 x_r0_1 x_r0_2 x_r0_3 x_r0_4 x_r0_5 x_r0_6 x_r0_7 h0 n0 _ s₁.heap _
    rw [e0]
    exact ⟨rfl, N0, rfl⟩
theorem own_pd0 : parseMethodDescriptor "([DII)D" = some ⟨[(.array .double), .int, .int], some .double⟩ := by decide +kernel
theorem own_d2_0 : decode method_3_code 0 = .ok (.aload_n 0, 1) := by decide +kernel
theorem own_d2_1 : decode method_3_code 1 = .ok (.iload_n 1, 1) := by decide +kernel
theorem own_d2_2 : decode method_3_code 2 = .ok (.iconst 2, 1) := by decide +kernel
theorem own_d2_3 : decode method_3_code 3 = .ok (.iload_n 2, 1) := by decide +kernel
theorem own_d2_4 : decode method_3_code 4 = .ok (.imul, 1) := by decide +kernel
theorem own_d2_5 : decode method_3_code 5 = .ok (.iconst 1, 1) := by decide +kernel
theorem own_d2_6 : decode method_3_code 6 = .ok (.isub, 1) := by decide +kernel
theorem own_d2_7 : decode method_3_code 7 = .ok (.invokestatic 7, 3) := by decide +kernel
theorem own_d2_10 : decode method_3_code 10 = .ok (.ldc2_w 13, 3) := by decide +kernel
theorem own_d2_13 : decode method_3_code 13 = .ok (.ddiv, 1) := by decide +kernel
theorem own_d2_14 : decode method_3_code 14 = .ok (.aload_n 0, 1) := by decide +kernel
theorem own_d2_15 : decode method_3_code 15 = .ok (.iload_n 1, 1) := by decide +kernel
theorem own_d2_16 : decode method_3_code 16 = .ok (.iconst 2, 1) := by decide +kernel
theorem own_d2_17 : decode method_3_code 17 = .ok (.iload_n 2, 1) := by decide +kernel
theorem own_d2_18 : decode method_3_code 18 = .ok (.imul, 1) := by decide +kernel
theorem own_d2_19 : decode method_3_code 19 = .ok (.invokestatic 7, 3) := by decide +kernel
theorem own_d2_22 : decode method_3_code 22 = .ok (.dadd, 1) := by decide +kernel
theorem own_d2_23 : decode method_3_code 23 = .ok (.aload_n 0, 1) := by decide +kernel
theorem own_d2_24 : decode method_3_code 24 = .ok (.iload_n 1, 1) := by decide +kernel
theorem own_d2_25 : decode method_3_code 25 = .ok (.iconst 2, 1) := by decide +kernel
theorem own_d2_26 : decode method_3_code 26 = .ok (.iload_n 2, 1) := by decide +kernel
theorem own_d2_27 : decode method_3_code 27 = .ok (.imul, 1) := by decide +kernel
theorem own_d2_28 : decode method_3_code 28 = .ok (.iconst 1, 1) := by decide +kernel
theorem own_d2_29 : decode method_3_code 29 = .ok (.iadd, 1) := by decide +kernel
theorem own_d2_30 : decode method_3_code 30 = .ok (.invokestatic 7, 3) := by decide +kernel
theorem own_d2_33 : decode method_3_code 33 = .ok (.ldc2_w 13, 3) := by decide +kernel
theorem own_d2_36 : decode method_3_code 36 = .ok (.ddiv, 1) := by decide +kernel
theorem own_d2_37 : decode method_3_code 37 = .ok (.dadd, 1) := by decide +kernel
theorem own_d2_38 : decode method_3_code 38 = .ok (.dreturn, 1) := by decide +kernel
def own_rex00_0 : UInt64 := (FP.dadd (FP.dadd (FP.ddiv (0 : UInt64) (4611686018427387904 : UInt64)) (0 : UInt64)) (FP.ddiv (0 : UInt64) (4611686018427387904 : UInt64)))
theorem own_efex00 (m : MethodId) (r0 : Addr) (p1 : Int32) : entryFrame m #[(.ref r0), (.int p1), (.int 0)] 3 = mkF m 0 #[.val (.ref r0), .val (.int p1), .val (.int 0)] [] := by first | (simp [entryFrame, mkF, argsToLocals, Value.category]; done) | rfl
def own_Qex00 (Z : State) (r0 : Addr) (p1 : Int32) (h0 : Heap) (n0 : Nat) (v : Option Value) (h : Heap) (L : List Loc) : Prop := v = some (.double own_rex00_0) ∧ Fr n0 L ∧ h = h0
set_option maxRecDepth 65536 in
set_option maxHeartbeats 40000000 in
theorem own_rmex00 (l : Launch) (Z : State) (a0 : Array Value) (hw : ∀ d ∈ tables_1, d.before a0 Z = true) (ws : List Jvm.Cond) (r0 : Addr) (p1 : Int32) (h0 : Heap) (n0 : Nat) (Z0 : n0 ≤ h0.size) (nn13 : NoNaN64 (FP.ddiv (0 : UInt64) (4611686018427387904 : UInt64))) (c19_hc6 : ¬ ((0 : Int32) < p1)) (nn22 : NoNaN64 (FP.dadd (FP.ddiv (0 : UInt64) (4611686018427387904 : UInt64)) (0 : UInt64))) (c30_hc6 : ¬ ((1 : Int32) < p1)) (nn37 : NoNaN64 (FP.dadd (FP.dadd (FP.ddiv (0 : UInt64) (4611686018427387904 : UInt64)) (0 : UInt64)) (FP.ddiv (0 : UInt64) (4611686018427387904 : UInt64)))) :
    MetFree l (⟨"com/example/surepath/surepath/LatticesHalvedPinLaw", "expect", "([DII)D"⟩ : MethodName) (head1 (Jvm.Cond.code (⟨"com/example/surepath/surepath/LatticesHalvedPinLaw", "expect", "([DII)D"⟩ : MethodName) method_3_code 3 (some .double) :: ws) ({ frames := 1, cells := 0, slots := 0, locals := 16 } : Room)) (fun a U => a = #[(.ref r0), (.int p1), (.int 0)] ∧ Z.Warmed39 U.vm ∧ U.heap = h0) (fun _ _ _ _ _ => True) (fun _ U o U' => ∃ v L, o = .returned v ∧ own_Qex00 Z r0 p1 h0 n0 v U'.heap L ∧ FrameEnd U o U' L ({ frames := 1, cells := 0, slots := 0, locals := 16 } : Room).cells ({ frames := 1, cells := 0, slots := 0, locals := 16 } : Room).slots) := by
  refine MetFree.of_bodySF (plainFor_of_name own_pn0) hisR ?_
  intro p e s m args below meth c s₁ Bd hml0 hP hK
  obtain ⟨rfl, hZ, hh⟩ := hP
  have hx := Bd.exec
  have hby := Bd.bytes
  have hml : c.maxLocals = 3 := hml0
  have hown : s.vm.findClass "com/example/surepath/surepath/LatticesHalvedPinLaw" = some m.cls := findClass_of_methodNamed Bd.named
  have hnm := (name_of_methodNamed Bd.named Bd.method).1
  have X0 : Stand p l e ({ frames := 1, cells := 0, slots := 0, locals := 16 } : Room) s m #[(.ref r0), (.int p1), (.int 0)] below meth c s₁ [] 0 0 := Stand.of_body Bd
  have e0 : s₁.heap = h0 := by rw [← hh, Bd.state]; rfl
  have N0 := Fr.nil n0
  have Zr : h0.size ≤ h0.size := Nat.le_refl _
  have pre0 : ∀ t, Steps p.tables e below (s₁.setTop (mkF m 0 #[.val (.ref r0), .val (.int p1), .val (.int 0)] [])) t → Steps p.tables e below (s₁.setTop (entryFrame m #[(.ref r0), (.int p1), (.int 0)] 3)) t := fun t k => castTop (own_efex00 m r0 p1) k
  obtain ⟨_, _, ⟨Tk1, Lk1, kk1, nk1⟩, -, Xk1, ⟨Lck1, hQk1, lk1, yk1, zk1⟩, stk1⟩ := Jvm.LawKit.callS X0 hx (y := (⟨"com/example/surepath/surepath/LatticesHalvedPinLaw", "at", "([DII)D"⟩ : MethodName)) hown (mvT hZ (own_W hw 10 rfl)) (mvT hZ (own_W hw 11 rfl)) (mvT hZ (own_W hw 8 rfl)) (mvT hZ (own_W hw 12 rfl)) (by decide) (backOf (W := 0) (own_rmatA l Z a0 hw [] r0 p1 (-1 : Int32) h0 n0 Z0 (by decide)) hZ (own_W hw 12 rfl) (own_W hw 8 rfl) (by decide) (by decide)) (g := (mkF m 7 #[.val (.ref r0), .val (.int p1), .val (.int 0)] [(.int (-1 : Int32)), (.int p1), (.ref r0)])) rfl (by rw [hml]; rfl) (argsL := [(.ref r0), (.int p1), (.int (-1 : Int32))]) (rest := []) (lenOf own_pd0 rfl) rfl (by show 2 * 0 + _ ≤ _; exact Nat.le_of_eq rfl) (hb hby own_d2_7) (fun _ _ => ⟨rfl, e0, (by decide : 0 + 0 ≤ _), (by decide : 0 + 0 ≤ _)⟩)
  dsimp only [Pt.U, Pt.locs, Pt.cells, Pt.slots] at Xk1 lk1 yk1 zk1 stk1 hQk1
  replace lk1 := lk1.symm; replace yk1 := yk1.symm; replace zk1 := zk1.symm; subst lk1 yk1 zk1
  obtain ⟨rfl, Nk1q, ek1⟩ := hQk1
  have Nk1 := Fr.app N0 Nk1q
  obtain ⟨_, _, ⟨Tk2, Lk2, kk2, nk2⟩, -, Xk2, ⟨Lck2, hQk2, lk2, yk2, zk2⟩, stk2⟩ := Jvm.LawKit.callS Xk1 hx (y := (⟨"com/example/surepath/surepath/LatticesHalvedPinLaw", "at", "([DII)D"⟩ : MethodName)) hown (mvT hZ (own_W hw 10 rfl)) (mvT hZ (own_W hw 11 rfl)) (mvT hZ (own_W hw 8 rfl)) (mvT hZ (own_W hw 12 rfl)) (by decide) (backOf (W := 2) (own_rmatC l Z a0 hw [] r0 p1 (0 : Int32) h0 n0 Z0 (by decide) c19_hc6) hZ (own_W hw 12 rfl) (own_W hw 8 rfl) (by decide) (by decide)) (g := (mkF m 19 #[.val (.ref r0), .val (.int p1), .val (.int 0)] [(.int 0), (.int p1), (.ref r0), (.double (FP.ddiv (0 : UInt64) (4611686018427387904 : UInt64)))])) rfl (by rw [hml]; rfl) (argsL := [(.ref r0), (.int p1), (.int 0)]) (rest := [(.double (FP.ddiv (0 : UInt64) (4611686018427387904 : UInt64)))]) (lenOf own_pd0 rfl) rfl (by show 2 * 0 + _ ≤ _; exact Nat.le_of_eq rfl) (hb hby own_d2_19) (fun _ _ => ⟨rfl, ek1, (by decide : 0 + 0 ≤ _), (by decide : 0 + 0 ≤ _)⟩)
  dsimp only [Pt.U, Pt.locs, Pt.cells, Pt.slots] at Xk2 lk2 yk2 zk2 stk2 hQk2
  replace lk2 := lk2.symm; replace yk2 := yk2.symm; replace zk2 := zk2.symm; subst lk2 yk2 zk2
  obtain ⟨rfl, Nk2q, ek2⟩ := hQk2
  have Nk2 := Fr.app Nk1 Nk2q
  obtain ⟨_, _, ⟨Tk3, Lk3, kk3, nk3⟩, -, Xk3, ⟨Lck3, hQk3, lk3, yk3, zk3⟩, stk3⟩ := Jvm.LawKit.callS Xk2 hx (y := (⟨"com/example/surepath/surepath/LatticesHalvedPinLaw", "at", "([DII)D"⟩ : MethodName)) hown (mvT hZ (own_W hw 10 rfl)) (mvT hZ (own_W hw 11 rfl)) (mvT hZ (own_W hw 8 rfl)) (mvT hZ (own_W hw 12 rfl)) (by decide) (backOf (W := 2) (own_rmatC l Z a0 hw [] r0 p1 (1 : Int32) h0 n0 Z0 (by decide) c30_hc6) hZ (own_W hw 12 rfl) (own_W hw 8 rfl) (by decide) (by decide)) (g := (mkF m 30 #[.val (.ref r0), .val (.int p1), .val (.int 0)] [(.int 1), (.int p1), (.ref r0), (.double (FP.dadd (FP.ddiv (0 : UInt64) (4611686018427387904 : UInt64)) (0 : UInt64)))])) rfl (by rw [hml]; rfl) (argsL := [(.ref r0), (.int p1), (.int 1)]) (rest := [(.double (FP.dadd (FP.ddiv (0 : UInt64) (4611686018427387904 : UInt64)) (0 : UInt64)))]) (lenOf own_pd0 rfl) rfl (by show 2 * 0 + _ ≤ _; exact Nat.le_of_eq rfl) (hb hby own_d2_30) (fun _ _ => ⟨rfl, ek2, (by decide : 0 + 0 ≤ _), (by decide : 0 + 0 ≤ _)⟩)
  dsimp only [Pt.U, Pt.locs, Pt.cells, Pt.slots] at Xk3 lk3 yk3 zk3 stk3 hQk3
  replace lk3 := lk3.symm; replace yk3 := yk3.symm; replace zk3 := zk3.symm; subst lk3 yk3 zk3
  obtain ⟨rfl, Nk3q, ek3⟩ := hQk3
  have Nk3 := Fr.app Nk2 Nk3q
  obtain ⟨fs, hr, hrun, hended, hW, hsame⟩ := Xk3.leave (v := some (.double (FP.dadd (FP.dadd (FP.ddiv (0 : UInt64) (4611686018427387904 : UInt64)) (0 : UInt64)) (FP.ddiv (0 : UInt64) (4611686018427387904 : UInt64))))) (fun h => by rw [Bd.returns] at h; cases h)
  refine ⟨_, _, pre0 _ (?_), hrun, hended, _, _, rfl, ?_, ⟨_, rfl⟩, hW, hsame.mono (by decide) (by decide)⟩
  · show Steps p.tables e below (s₁.setTop (mkF m 0 #[.val (.ref r0), .val (.int p1), .val (.int 0)] [])) _
    refine XS.aloadN X0.here hx rfl (hb hby own_d2_0) rfl rfl ?_
    refine XS.iloadN X0.here hx rfl (hb hby own_d2_1) rfl ?_
    refine XS.iconst X0.here hx rfl (hb hby own_d2_2) ?_
    refine XS.iloadN X0.here hx rfl (hb hby own_d2_3) rfl ?_
    refine XS.imul X0.here hx rfl (hb hby own_d2_4) rfl ?_
    show Steps p.tables e below (s₁.setTop (mkF m 5 #[.val (.ref r0), .val (.int p1), .val (.int 0)] [(.int 0), (.int p1), (.ref r0)])) _
    refine XS.iconst X0.here hx rfl (hb hby own_d2_5) ?_
    refine XS.isub X0.here hx rfl (hb hby own_d2_6) rfl ?_
    refine stk1 _ ?_
    show Steps p.tables e below (Tk1.setTop (mkF m 10 #[.val (.ref r0), .val (.int p1), .val (.int 0)] [(.double 0)])) _
    refine Xk1.ldc2DoubleC hx hown (mvT hZ (own_W hw 13 rfl)) (g := (mkF m 10 #[.val (.ref r0), .val (.int p1), .val (.int 0)] [(.double 0)])) rfl (hb hby own_d2_10) _ ?_
    refine XS.ddivS Xk1.here hx rfl (hb hby own_d2_13) rfl nn13 rfl ?_
    refine XS.aloadN Xk1.here hx rfl (hb hby own_d2_14) rfl rfl ?_
    refine XS.iloadN Xk1.here hx rfl (hb hby own_d2_15) rfl ?_
    refine XS.iconst Xk1.here hx rfl (hb hby own_d2_16) ?_
    refine XS.iloadN Xk1.here hx rfl (hb hby own_d2_17) rfl ?_
    refine XS.imul Xk1.here hx rfl (hb hby own_d2_18) rfl ?_
    show Steps p.tables e below (Tk1.setTop (mkF m 19 #[.val (.ref r0), .val (.int p1), .val (.int 0)] [(.int 0), (.int p1), (.ref r0), (.double (FP.ddiv (0 : UInt64) (4611686018427387904 : UInt64)))])) _
    refine stk2 _ ?_
    refine XS.daddS Xk2.here hx rfl (hb hby own_d2_22) rfl nn22 rfl ?_
    refine XS.aloadN Xk2.here hx rfl (hb hby own_d2_23) rfl rfl ?_
    refine XS.iloadN Xk2.here hx rfl (hb hby own_d2_24) rfl ?_
    refine XS.iconst Xk2.here hx rfl (hb hby own_d2_25) ?_
    refine XS.iloadN Xk2.here hx rfl (hb hby own_d2_26) rfl ?_
    refine XS.imul Xk2.here hx rfl (hb hby own_d2_27) rfl ?_
    show Steps p.tables e below (Tk2.setTop (mkF m 28 #[.val (.ref r0), .val (.int p1), .val (.int 0)] [(.int 0), (.int p1), (.ref r0), (.double (FP.dadd (FP.ddiv (0 : UInt64) (4611686018427387904 : UInt64)) (0 : UInt64)))])) _
    refine XS.iconst Xk2.here hx rfl (hb hby own_d2_28) ?_
    refine XS.iadd Xk2.here hx rfl (hb hby own_d2_29) rfl ?_
    refine stk3 _ ?_
    show Steps p.tables e below (Tk3.setTop (mkF m 33 #[.val (.ref r0), .val (.int p1), .val (.int 0)] [(.double 0), (.double (FP.dadd (FP.ddiv (0 : UInt64) (4611686018427387904 : UInt64)) (0 : UInt64)))])) _
    refine Xk3.ldc2DoubleC hx hown (mvT hZ (own_W hw 13 rfl)) (g := (mkF m 33 #[.val (.ref r0), .val (.int p1), .val (.int 0)] [(.double 0), (.double (FP.dadd (FP.ddiv (0 : UInt64) (4611686018427387904 : UInt64)) (0 : UInt64)))])) rfl (hb hby own_d2_33) _ ?_
    refine XS.ddivS Xk3.here hx rfl (hb hby own_d2_36) rfl nn13 rfl ?_
    refine XS.daddS Xk3.here hx rfl (hb hby own_d2_37) rfl nn37 rfl ?_
    show Steps p.tables e below (Tk3.setTop (mkF m 38 #[.val (.ref r0), .val (.int p1), .val (.int 0)] [(.double (FP.dadd (FP.dadd (FP.ddiv (0 : UInt64) (4611686018427387904 : UInt64)) (0 : UInt64)) (FP.ddiv (0 : UInt64) (4611686018427387904 : UInt64))))])) _
    exact own_retD Xk3 hx Bd.returns (hb hby own_d2_38) hr
  · show own_Qex00 Z r0 p1 h0 n0 _ Tk3.heap _
    rw [ek3]
    exact ⟨rfl, Nk3, rfl⟩
def own_rex01_0 (x_r0_0 : UInt64) : UInt64 := (FP.dadd (FP.dadd (FP.ddiv (0 : UInt64) (4611686018427387904 : UInt64)) x_r0_0) (FP.ddiv (0 : UInt64) (4611686018427387904 : UInt64)))
theorem own_efex01 (m : MethodId) (r0 : Addr) (p1 : Int32) : entryFrame m #[(.ref r0), (.int p1), (.int 0)] 3 = mkF m 0 #[.val (.ref r0), .val (.int p1), .val (.int 0)] [] := by first | (simp [entryFrame, mkF, argsToLocals, Value.category]; done) | rfl
def own_Qex01 (Z : State) (r0 : Addr) (p1 : Int32) (k_r0 : ClassId) (x_r0_0 : UInt64) (x_r0_1 : UInt64) (x_r0_2 : UInt64) (x_r0_3 : UInt64) (x_r0_4 : UInt64) (x_r0_5 : UInt64) (x_r0_6 : UInt64) (x_r0_7 : UInt64) (h0 : Heap) (n0 : Nat) (v : Option Value) (h : Heap) (L : List Loc) : Prop := v = some (.double (own_rex01_0 x_r0_0)) ∧ Fr n0 L ∧ h = h0
set_option maxRecDepth 65536 in
set_option maxHeartbeats 40000000 in
theorem own_rmex01 (l : Launch) (Z : State) (a0 : Array Value) (hw : ∀ d ∈ tables_1, d.before a0 Z = true) (ws : List Jvm.Cond) (r0 : Addr) (p1 : Int32) (k_r0 : ClassId) (x_r0_0 : UInt64) (x_r0_1 : UInt64) (x_r0_2 : UInt64) (x_r0_3 : UInt64) (x_r0_4 : UInt64) (x_r0_5 : UInt64) (x_r0_6 : UInt64) (x_r0_7 : UInt64) (h0 : Heap) (n0 : Nat) (Z0 : n0 ≤ h0.size) (V_r0 : Arv Z h0 r0 k_r0 .double (8 : Int32) [(.double x_r0_0), (.double x_r0_1), (.double x_r0_2), (.double x_r0_3), (.double x_r0_4), (.double x_r0_5), (.double x_r0_6), (.double x_r0_7)] (.double 0)) (nn13 : NoNaN64 (FP.ddiv (0 : UInt64) (4611686018427387904 : UInt64))) (c19_hc6 : (0 : Int32) < p1) (nn22 : NoNaN64 (FP.dadd (FP.ddiv (0 : UInt64) (4611686018427387904 : UInt64)) x_r0_0)) (c30_hc6 : ¬ ((1 : Int32) < p1)) (nn37 : NoNaN64 (FP.dadd (FP.dadd (FP.ddiv (0 : UInt64) (4611686018427387904 : UInt64)) x_r0_0) (FP.ddiv (0 : UInt64) (4611686018427387904 : UInt64)))) :
    MetFree l (⟨"com/example/surepath/surepath/LatticesHalvedPinLaw", "expect", "([DII)D"⟩ : MethodName) (head1 (Jvm.Cond.code (⟨"com/example/surepath/surepath/LatticesHalvedPinLaw", "expect", "([DII)D"⟩ : MethodName) method_3_code 3 (some .double) :: ws) ({ frames := 1, cells := 0, slots := 0, locals := 16 } : Room)) (fun a U => a = #[(.ref r0), (.int p1), (.int 0)] ∧ Z.Warmed39 U.vm ∧ U.heap = h0) (fun _ _ _ _ _ => True) (fun _ U o U' => ∃ v L, o = .returned v ∧ own_Qex01 Z r0 p1 k_r0 x_r0_0 x_r0_1 x_r0_2 x_r0_3 x_r0_4 x_r0_5 x_r0_6 x_r0_7 h0 n0 v U'.heap L ∧ FrameEnd U o U' L ({ frames := 1, cells := 0, slots := 0, locals := 16 } : Room).cells ({ frames := 1, cells := 0, slots := 0, locals := 16 } : Room).slots) := by
  refine MetFree.of_bodySF (plainFor_of_name own_pn0) hisR ?_
  intro p e s m args below meth c s₁ Bd hml0 hP hK
  obtain ⟨rfl, hZ, hh⟩ := hP
  have hx := Bd.exec
  have hby := Bd.bytes
  have hml : c.maxLocals = 3 := hml0
  have hown : s.vm.findClass "com/example/surepath/surepath/LatticesHalvedPinLaw" = some m.cls := findClass_of_methodNamed Bd.named
  have hnm := (name_of_methodNamed Bd.named Bd.method).1
  have X0 : Stand p l e ({ frames := 1, cells := 0, slots := 0, locals := 16 } : Room) s m #[(.ref r0), (.int p1), (.int 0)] below meth c s₁ [] 0 0 := Stand.of_body Bd
  have e0 : s₁.heap = h0 := by rw [← hh, Bd.state]; rfl
  have N0 := Fr.nil n0
  have Zr : h0.size ≤ h0.size := Nat.le_refl _
  have pre0 : ∀ t, Steps p.tables e below (s₁.setTop (mkF m 0 #[.val (.ref r0), .val (.int p1), .val (.int 0)] [])) t → Steps p.tables e below (s₁.setTop (entryFrame m #[(.ref r0), (.int p1), (.int 0)] 3)) t := fun t k => castTop (own_efex01 m r0 p1) k
  obtain ⟨_, _, ⟨Tk1, Lk1, kk1, nk1⟩, -, Xk1, ⟨Lck1, hQk1, lk1, yk1, zk1⟩, stk1⟩ := Jvm.LawKit.callS X0 hx (y := (⟨"com/example/surepath/surepath/LatticesHalvedPinLaw", "at", "([DII)D"⟩ : MethodName)) hown (mvT hZ (own_W hw 10 rfl)) (mvT hZ (own_W hw 11 rfl)) (mvT hZ (own_W hw 8 rfl)) (mvT hZ (own_W hw 12 rfl)) (by decide) (backOf (W := 0) (own_rmatA l Z a0 hw [] r0 p1 (-1 : Int32) h0 n0 Z0 (by decide)) hZ (own_W hw 12 rfl) (own_W hw 8 rfl) (by decide) (by decide)) (g := (mkF m 7 #[.val (.ref r0), .val (.int p1), .val (.int 0)] [(.int (-1 : Int32)), (.int p1), (.ref r0)])) rfl (by rw [hml]; rfl) (argsL := [(.ref r0), (.int p1), (.int (-1 : Int32))]) (rest := []) (lenOf own_pd0 rfl) rfl (by show 2 * 0 + _ ≤ _; exact Nat.le_of_eq rfl) (hb hby own_d2_7) (fun _ _ => ⟨rfl, e0, (by decide : 0 + 0 ≤ _), (by decide : 0 + 0 ≤ _)⟩)
  dsimp only [Pt.U, Pt.locs, Pt.cells, Pt.slots] at Xk1 lk1 yk1 zk1 stk1 hQk1
  replace lk1 := lk1.symm; replace yk1 := yk1.symm; replace zk1 := zk1.symm; subst lk1 yk1 zk1
  obtain ⟨rfl, Nk1q, ek1⟩ := hQk1
  have Nk1 := Fr.app N0 Nk1q
  obtain ⟨_, _, ⟨Tk2, Lk2, kk2, nk2⟩, -, Xk2, ⟨Lck2, hQk2, lk2, yk2, zk2⟩, stk2⟩ := Jvm.LawKit.callS Xk1 hx (y := (⟨"com/example/surepath/surepath/LatticesHalvedPinLaw", "at", "([DII)D"⟩ : MethodName)) hown (mvT hZ (own_W hw 10 rfl)) (mvT hZ (own_W hw 11 rfl)) (mvT hZ (own_W hw 8 rfl)) (mvT hZ (own_W hw 12 rfl)) (by decide) (backOf (W := 2) (own_rmatB0 l Z a0 hw [] r0 p1 k_r0 x_r0_0 x_r0_1 x_r0_2 x_r0_3 x_r0_4 x_r0_5 x_r0_6 x_r0_7 h0 n0 Z0 V_r0 c19_hc6) hZ (own_W hw 12 rfl) (own_W hw 8 rfl) (by decide) (by decide)) (g := (mkF m 19 #[.val (.ref r0), .val (.int p1), .val (.int 0)] [(.int 0), (.int p1), (.ref r0), (.double (FP.ddiv (0 : UInt64) (4611686018427387904 : UInt64)))])) rfl (by rw [hml]; rfl) (argsL := [(.ref r0), (.int p1), (.int 0)]) (rest := [(.double (FP.ddiv (0 : UInt64) (4611686018427387904 : UInt64)))]) (lenOf own_pd0 rfl) rfl (by show 2 * 0 + _ ≤ _; exact Nat.le_of_eq rfl) (hb hby own_d2_19) (fun _ _ => ⟨rfl, ek1, (by decide : 0 + 0 ≤ _), (by decide : 0 + 0 ≤ _)⟩)
  dsimp only [Pt.U, Pt.locs, Pt.cells, Pt.slots] at Xk2 lk2 yk2 zk2 stk2 hQk2
  replace lk2 := lk2.symm; replace yk2 := yk2.symm; replace zk2 := zk2.symm; subst lk2 yk2 zk2
  obtain ⟨rfl, Nk2q, ek2⟩ := hQk2
  have Nk2 := Fr.app Nk1 Nk2q
  obtain ⟨_, _, ⟨Tk3, Lk3, kk3, nk3⟩, -, Xk3, ⟨Lck3, hQk3, lk3, yk3, zk3⟩, stk3⟩ := Jvm.LawKit.callS Xk2 hx (y := (⟨"com/example/surepath/surepath/LatticesHalvedPinLaw", "at", "([DII)D"⟩ : MethodName)) hown (mvT hZ (own_W hw 10 rfl)) (mvT hZ (own_W hw 11 rfl)) (mvT hZ (own_W hw 8 rfl)) (mvT hZ (own_W hw 12 rfl)) (by decide) (backOf (W := 2) (own_rmatC l Z a0 hw [] r0 p1 (1 : Int32) h0 n0 Z0 (by decide) c30_hc6) hZ (own_W hw 12 rfl) (own_W hw 8 rfl) (by decide) (by decide)) (g := (mkF m 30 #[.val (.ref r0), .val (.int p1), .val (.int 0)] [(.int 1), (.int p1), (.ref r0), (.double (FP.dadd (FP.ddiv (0 : UInt64) (4611686018427387904 : UInt64)) x_r0_0))])) rfl (by rw [hml]; rfl) (argsL := [(.ref r0), (.int p1), (.int 1)]) (rest := [(.double (FP.dadd (FP.ddiv (0 : UInt64) (4611686018427387904 : UInt64)) x_r0_0))]) (lenOf own_pd0 rfl) rfl (by show 2 * 0 + _ ≤ _; exact Nat.le_of_eq rfl) (hb hby own_d2_30) (fun _ _ => ⟨rfl, ek2, (by decide : 0 + 0 ≤ _), (by decide : 0 + 0 ≤ _)⟩)
  dsimp only [Pt.U, Pt.locs, Pt.cells, Pt.slots] at Xk3 lk3 yk3 zk3 stk3 hQk3
  replace lk3 := lk3.symm; replace yk3 := yk3.symm; replace zk3 := zk3.symm; subst lk3 yk3 zk3
  obtain ⟨rfl, Nk3q, ek3⟩ := hQk3
  have Nk3 := Fr.app Nk2 Nk3q
  obtain ⟨fs, hr, hrun, hended, hW, hsame⟩ := Xk3.leave (v := some (.double (FP.dadd (FP.dadd (FP.ddiv (0 : UInt64) (4611686018427387904 : UInt64)) x_r0_0) (FP.ddiv (0 : UInt64) (4611686018427387904 : UInt64))))) (fun h => by rw [Bd.returns] at h; cases h)
  refine ⟨_, _, pre0 _ (?_), hrun, hended, _, _, rfl, ?_, ⟨_, rfl⟩, hW, hsame.mono (by decide) (by decide)⟩
  · show Steps p.tables e below (s₁.setTop (mkF m 0 #[.val (.ref r0), .val (.int p1), .val (.int 0)] [])) _
    refine XS.aloadN X0.here hx rfl (hb hby own_d2_0) rfl rfl ?_
    refine XS.iloadN X0.here hx rfl (hb hby own_d2_1) rfl ?_
    refine XS.iconst X0.here hx rfl (hb hby own_d2_2) ?_
    refine XS.iloadN X0.here hx rfl (hb hby own_d2_3) rfl ?_
    refine XS.imul X0.here hx rfl (hb hby own_d2_4) rfl ?_
    show Steps p.tables e below (s₁.setTop (mkF m 5 #[.val (.ref r0), .val (.int p1), .val (.int 0)] [(.int 0), (.int p1), (.ref r0)])) _
    refine XS.iconst X0.here hx rfl (hb hby own_d2_5) ?_
    refine XS.isub X0.here hx rfl (hb hby own_d2_6) rfl ?_
    refine stk1 _ ?_
    show Steps p.tables e below (Tk1.setTop (mkF m 10 #[.val (.ref r0), .val (.int p1), .val (.int 0)] [(.double 0)])) _
    refine Xk1.ldc2DoubleC hx hown (mvT hZ (own_W hw 13 rfl)) (g := (mkF m 10 #[.val (.ref r0), .val (.int p1), .val (.int 0)] [(.double 0)])) rfl (hb hby own_d2_10) _ ?_
    refine XS.ddivS Xk1.here hx rfl (hb hby own_d2_13) rfl nn13 rfl ?_
    refine XS.aloadN Xk1.here hx rfl (hb hby own_d2_14) rfl rfl ?_
    refine XS.iloadN Xk1.here hx rfl (hb hby own_d2_15) rfl ?_
    refine XS.iconst Xk1.here hx rfl (hb hby own_d2_16) ?_
    refine XS.iloadN Xk1.here hx rfl (hb hby own_d2_17) rfl ?_
    refine XS.imul Xk1.here hx rfl (hb hby own_d2_18) rfl ?_
    show Steps p.tables e below (Tk1.setTop (mkF m 19 #[.val (.ref r0), .val (.int p1), .val (.int 0)] [(.int 0), (.int p1), (.ref r0), (.double (FP.ddiv (0 : UInt64) (4611686018427387904 : UInt64)))])) _
    refine stk2 _ ?_
    refine XS.daddS Xk2.here hx rfl (hb hby own_d2_22) rfl nn22 rfl ?_
    refine XS.aloadN Xk2.here hx rfl (hb hby own_d2_23) rfl rfl ?_
    refine XS.iloadN Xk2.here hx rfl (hb hby own_d2_24) rfl ?_
    refine XS.iconst Xk2.here hx rfl (hb hby own_d2_25) ?_
    refine XS.iloadN Xk2.here hx rfl (hb hby own_d2_26) rfl ?_
    refine XS.imul Xk2.here hx rfl (hb hby own_d2_27) rfl ?_
    show Steps p.tables e below (Tk2.setTop (mkF m 28 #[.val (.ref r0), .val (.int p1), .val (.int 0)] [(.int 0), (.int p1), (.ref r0), (.double (FP.dadd (FP.ddiv (0 : UInt64) (4611686018427387904 : UInt64)) x_r0_0))])) _
    refine XS.iconst Xk2.here hx rfl (hb hby own_d2_28) ?_
    refine XS.iadd Xk2.here hx rfl (hb hby own_d2_29) rfl ?_
    refine stk3 _ ?_
    show Steps p.tables e below (Tk3.setTop (mkF m 33 #[.val (.ref r0), .val (.int p1), .val (.int 0)] [(.double 0), (.double (FP.dadd (FP.ddiv (0 : UInt64) (4611686018427387904 : UInt64)) x_r0_0))])) _
    refine Xk3.ldc2DoubleC hx hown (mvT hZ (own_W hw 13 rfl)) (g := (mkF m 33 #[.val (.ref r0), .val (.int p1), .val (.int 0)] [(.double 0), (.double (FP.dadd (FP.ddiv (0 : UInt64) (4611686018427387904 : UInt64)) x_r0_0))])) rfl (hb hby own_d2_33) _ ?_
    refine XS.ddivS Xk3.here hx rfl (hb hby own_d2_36) rfl nn13 rfl ?_
    refine XS.daddS Xk3.here hx rfl (hb hby own_d2_37) rfl nn37 rfl ?_
    show Steps p.tables e below (Tk3.setTop (mkF m 38 #[.val (.ref r0), .val (.int p1), .val (.int 0)] [(.double (FP.dadd (FP.dadd (FP.ddiv (0 : UInt64) (4611686018427387904 : UInt64)) x_r0_0) (FP.ddiv (0 : UInt64) (4611686018427387904 : UInt64))))])) _
    exact own_retD Xk3 hx Bd.returns (hb hby own_d2_38) hr
  · show own_Qex01 Z r0 p1 k_r0 x_r0_0 x_r0_1 x_r0_2 x_r0_3 x_r0_4 x_r0_5 x_r0_6 x_r0_7 h0 n0 _ Tk3.heap _
    rw [ek3]
    exact ⟨rfl, Nk3, rfl⟩
def own_rex02_0 (x_r0_0 : UInt64) (x_r0_1 : UInt64) : UInt64 := (FP.dadd (FP.dadd (FP.ddiv (0 : UInt64) (4611686018427387904 : UInt64)) x_r0_0) (FP.ddiv x_r0_1 (4611686018427387904 : UInt64)))
theorem own_efex02 (m : MethodId) (r0 : Addr) (p1 : Int32) : entryFrame m #[(.ref r0), (.int p1), (.int 0)] 3 = mkF m 0 #[.val (.ref r0), .val (.int p1), .val (.int 0)] [] := by first | (simp [entryFrame, mkF, argsToLocals, Value.category]; done) | rfl
def own_Qex02 (Z : State) (r0 : Addr) (p1 : Int32) (k_r0 : ClassId) (x_r0_0 : UInt64) (x_r0_1 : UInt64) (x_r0_2 : UInt64) (x_r0_3 : UInt64) (x_r0_4 : UInt64) (x_r0_5 : UInt64) (x_r0_6 : UInt64) (x_r0_7 : UInt64) (h0 : Heap) (n0 : Nat) (v : Option Value) (h : Heap) (L : List Loc) : Prop := v = some (.double (own_rex02_0 x_r0_0 x_r0_1)) ∧ Fr n0 L ∧ h = h0
set_option maxRecDepth 65536 in
set_option maxHeartbeats 40000000 in
theorem own_rmex02 (l : Launch) (Z : State) (a0 : Array Value) (hw : ∀ d ∈ tables_1, d.before a0 Z = true) (ws : List Jvm.Cond) (r0 : Addr) (p1 : Int32) (k_r0 : ClassId) (x_r0_0 : UInt64) (x_r0_1 : UInt64) (x_r0_2 : UInt64) (x_r0_3 : UInt64) (x_r0_4 : UInt64) (x_r0_5 : UInt64) (x_r0_6 : UInt64) (x_r0_7 : UInt64) (h0 : Heap) (n0 : Nat) (Z0 : n0 ≤ h0.size) (V_r0 : Arv Z h0 r0 k_r0 .double (8 : Int32) [(.double x_r0_0), (.double x_r0_1), (.double x_r0_2), (.double x_r0_3), (.double x_r0_4), (.double x_r0_5), (.double x_r0_6), (.double x_r0_7)] (.double 0)) (nn13 : NoNaN64 (FP.ddiv (0 : UInt64) (4611686018427387904 : UInt64))) (c19_hc6 : (0 : Int32) < p1) (nn22 : NoNaN64 (FP.dadd (FP.ddiv (0 : UInt64) (4611686018427387904 : UInt64)) x_r0_0)) (c30_hc6 : (1 : Int32) < p1) (nn36 : NoNaN64 (FP.ddiv x_r0_1 (4611686018427387904 : UInt64))) (nn37 : NoNaN64 (FP.dadd (FP.dadd (FP.ddiv (0 : UInt64) (4611686018427387904 : UInt64)) x_r0_0) (FP.ddiv x_r0_1 (4611686018427387904 : UInt64)))) :
    MetFree l (⟨"com/example/surepath/surepath/LatticesHalvedPinLaw", "expect", "([DII)D"⟩ : MethodName) (head1 (Jvm.Cond.code (⟨"com/example/surepath/surepath/LatticesHalvedPinLaw", "expect", "([DII)D"⟩ : MethodName) method_3_code 3 (some .double) :: ws) ({ frames := 1, cells := 0, slots := 0, locals := 16 } : Room)) (fun a U => a = #[(.ref r0), (.int p1), (.int 0)] ∧ Z.Warmed39 U.vm ∧ U.heap = h0) (fun _ _ _ _ _ => True) (fun _ U o U' => ∃ v L, o = .returned v ∧ own_Qex02 Z r0 p1 k_r0 x_r0_0 x_r0_1 x_r0_2 x_r0_3 x_r0_4 x_r0_5 x_r0_6 x_r0_7 h0 n0 v U'.heap L ∧ FrameEnd U o U' L ({ frames := 1, cells := 0, slots := 0, locals := 16 } : Room).cells ({ frames := 1, cells := 0, slots := 0, locals := 16 } : Room).slots) := by
  refine MetFree.of_bodySF (plainFor_of_name own_pn0) hisR ?_
  intro p e s m args below meth c s₁ Bd hml0 hP hK
  obtain ⟨rfl, hZ, hh⟩ := hP
  have hx := Bd.exec
  have hby := Bd.bytes
  have hml : c.maxLocals = 3 := hml0
  have hown : s.vm.findClass "com/example/surepath/surepath/LatticesHalvedPinLaw" = some m.cls := findClass_of_methodNamed Bd.named
  have hnm := (name_of_methodNamed Bd.named Bd.method).1
  have X0 : Stand p l e ({ frames := 1, cells := 0, slots := 0, locals := 16 } : Room) s m #[(.ref r0), (.int p1), (.int 0)] below meth c s₁ [] 0 0 := Stand.of_body Bd
  have e0 : s₁.heap = h0 := by rw [← hh, Bd.state]; rfl
  have N0 := Fr.nil n0
  have Zr : h0.size ≤ h0.size := Nat.le_refl _
  have pre0 : ∀ t, Steps p.tables e below (s₁.setTop (mkF m 0 #[.val (.ref r0), .val (.int p1), .val (.int 0)] [])) t → Steps p.tables e below (s₁.setTop (entryFrame m #[(.ref r0), (.int p1), (.int 0)] 3)) t := fun t k => castTop (own_efex02 m r0 p1) k
  obtain ⟨_, _, ⟨Tk1, Lk1, kk1, nk1⟩, -, Xk1, ⟨Lck1, hQk1, lk1, yk1, zk1⟩, stk1⟩ := Jvm.LawKit.callS X0 hx (y := (⟨"com/example/surepath/surepath/LatticesHalvedPinLaw", "at", "([DII)D"⟩ : MethodName)) hown (mvT hZ (own_W hw 10 rfl)) (mvT hZ (own_W hw 11 rfl)) (mvT hZ (own_W hw 8 rfl)) (mvT hZ (own_W hw 12 rfl)) (by decide) (backOf (W := 0) (own_rmatA l Z a0 hw [] r0 p1 (-1 : Int32) h0 n0 Z0 (by decide)) hZ (own_W hw 12 rfl) (own_W hw 8 rfl) (by decide) (by decide)) (g := (mkF m 7 #[.val (.ref r0), .val (.int p1), .val (.int 0)] [(.int (-1 : Int32)), (.int p1), (.ref r0)])) rfl (by rw [hml]; rfl) (argsL := [(.ref r0), (.int p1), (.int (-1 : Int32))]) (rest := []) (lenOf own_pd0 rfl) rfl (by show 2 * 0 + _ ≤ _; exact Nat.le_of_eq rfl) (hb hby own_d2_7) (fun _ _ => ⟨rfl, e0, (by decide : 0 + 0 ≤ _), (by decide : 0 + 0 ≤ _)⟩)
  dsimp only [Pt.U, Pt.locs, Pt.cells, Pt.slots] at Xk1 lk1 yk1 zk1 stk1 hQk1
  replace lk1 := lk1.symm; replace yk1 := yk1.symm; replace zk1 := zk1.symm; subst lk1 yk1 zk1
  obtain ⟨rfl, Nk1q, ek1⟩ := hQk1
  have Nk1 := Fr.app N0 Nk1q
  obtain ⟨_, _, ⟨Tk2, Lk2, kk2, nk2⟩, -, Xk2, ⟨Lck2, hQk2, lk2, yk2, zk2⟩, stk2⟩ := Jvm.LawKit.callS Xk1 hx (y := (⟨"com/example/surepath/surepath/LatticesHalvedPinLaw", "at", "([DII)D"⟩ : MethodName)) hown (mvT hZ (own_W hw 10 rfl)) (mvT hZ (own_W hw 11 rfl)) (mvT hZ (own_W hw 8 rfl)) (mvT hZ (own_W hw 12 rfl)) (by decide) (backOf (W := 2) (own_rmatB0 l Z a0 hw [] r0 p1 k_r0 x_r0_0 x_r0_1 x_r0_2 x_r0_3 x_r0_4 x_r0_5 x_r0_6 x_r0_7 h0 n0 Z0 V_r0 c19_hc6) hZ (own_W hw 12 rfl) (own_W hw 8 rfl) (by decide) (by decide)) (g := (mkF m 19 #[.val (.ref r0), .val (.int p1), .val (.int 0)] [(.int 0), (.int p1), (.ref r0), (.double (FP.ddiv (0 : UInt64) (4611686018427387904 : UInt64)))])) rfl (by rw [hml]; rfl) (argsL := [(.ref r0), (.int p1), (.int 0)]) (rest := [(.double (FP.ddiv (0 : UInt64) (4611686018427387904 : UInt64)))]) (lenOf own_pd0 rfl) rfl (by show 2 * 0 + _ ≤ _; exact Nat.le_of_eq rfl) (hb hby own_d2_19) (fun _ _ => ⟨rfl, ek1, (by decide : 0 + 0 ≤ _), (by decide : 0 + 0 ≤ _)⟩)
  dsimp only [Pt.U, Pt.locs, Pt.cells, Pt.slots] at Xk2 lk2 yk2 zk2 stk2 hQk2
  replace lk2 := lk2.symm; replace yk2 := yk2.symm; replace zk2 := zk2.symm; subst lk2 yk2 zk2
  obtain ⟨rfl, Nk2q, ek2⟩ := hQk2
  have Nk2 := Fr.app Nk1 Nk2q
  obtain ⟨_, _, ⟨Tk3, Lk3, kk3, nk3⟩, -, Xk3, ⟨Lck3, hQk3, lk3, yk3, zk3⟩, stk3⟩ := Jvm.LawKit.callS Xk2 hx (y := (⟨"com/example/surepath/surepath/LatticesHalvedPinLaw", "at", "([DII)D"⟩ : MethodName)) hown (mvT hZ (own_W hw 10 rfl)) (mvT hZ (own_W hw 11 rfl)) (mvT hZ (own_W hw 8 rfl)) (mvT hZ (own_W hw 12 rfl)) (by decide) (backOf (W := 2) (own_rmatB1 l Z a0 hw [] r0 p1 k_r0 x_r0_0 x_r0_1 x_r0_2 x_r0_3 x_r0_4 x_r0_5 x_r0_6 x_r0_7 h0 n0 Z0 V_r0 c30_hc6) hZ (own_W hw 12 rfl) (own_W hw 8 rfl) (by decide) (by decide)) (g := (mkF m 30 #[.val (.ref r0), .val (.int p1), .val (.int 0)] [(.int 1), (.int p1), (.ref r0), (.double (FP.dadd (FP.ddiv (0 : UInt64) (4611686018427387904 : UInt64)) x_r0_0))])) rfl (by rw [hml]; rfl) (argsL := [(.ref r0), (.int p1), (.int 1)]) (rest := [(.double (FP.dadd (FP.ddiv (0 : UInt64) (4611686018427387904 : UInt64)) x_r0_0))]) (lenOf own_pd0 rfl) rfl (by show 2 * 0 + _ ≤ _; exact Nat.le_of_eq rfl) (hb hby own_d2_30) (fun _ _ => ⟨rfl, ek2, (by decide : 0 + 0 ≤ _), (by decide : 0 + 0 ≤ _)⟩)
  dsimp only [Pt.U, Pt.locs, Pt.cells, Pt.slots] at Xk3 lk3 yk3 zk3 stk3 hQk3
  replace lk3 := lk3.symm; replace yk3 := yk3.symm; replace zk3 := zk3.symm; subst lk3 yk3 zk3
  obtain ⟨rfl, Nk3q, ek3⟩ := hQk3
  have Nk3 := Fr.app Nk2 Nk3q
  obtain ⟨fs, hr, hrun, hended, hW, hsame⟩ := Xk3.leave (v := some (.double (FP.dadd (FP.dadd (FP.ddiv (0 : UInt64) (4611686018427387904 : UInt64)) x_r0_0) (FP.ddiv x_r0_1 (4611686018427387904 : UInt64))))) (fun h => by rw [Bd.returns] at h; cases h)
  refine ⟨_, _, pre0 _ (?_), hrun, hended, _, _, rfl, ?_, ⟨_, rfl⟩, hW, hsame.mono (by decide) (by decide)⟩
  · show Steps p.tables e below (s₁.setTop (mkF m 0 #[.val (.ref r0), .val (.int p1), .val (.int 0)] [])) _
    refine XS.aloadN X0.here hx rfl (hb hby own_d2_0) rfl rfl ?_
    refine XS.iloadN X0.here hx rfl (hb hby own_d2_1) rfl ?_
    refine XS.iconst X0.here hx rfl (hb hby own_d2_2) ?_
    refine XS.iloadN X0.here hx rfl (hb hby own_d2_3) rfl ?_
    refine XS.imul X0.here hx rfl (hb hby own_d2_4) rfl ?_
    show Steps p.tables e below (s₁.setTop (mkF m 5 #[.val (.ref r0), .val (.int p1), .val (.int 0)] [(.int 0), (.int p1), (.ref r0)])) _
    refine XS.iconst X0.here hx rfl (hb hby own_d2_5) ?_
    refine XS.isub X0.here hx rfl (hb hby own_d2_6) rfl ?_
    refine stk1 _ ?_
    show Steps p.tables e below (Tk1.setTop (mkF m 10 #[.val (.ref r0), .val (.int p1), .val (.int 0)] [(.double 0)])) _
    refine Xk1.ldc2DoubleC hx hown (mvT hZ (own_W hw 13 rfl)) (g := (mkF m 10 #[.val (.ref r0), .val (.int p1), .val (.int 0)] [(.double 0)])) rfl (hb hby own_d2_10) _ ?_
    refine XS.ddivS Xk1.here hx rfl (hb hby own_d2_13) rfl nn13 rfl ?_
    refine XS.aloadN Xk1.here hx rfl (hb hby own_d2_14) rfl rfl ?_
    refine XS.iloadN Xk1.here hx rfl (hb hby own_d2_15) rfl ?_
    refine XS.iconst Xk1.here hx rfl (hb hby own_d2_16) ?_
    refine XS.iloadN Xk1.here hx rfl (hb hby own_d2_17) rfl ?_
    refine XS.imul Xk1.here hx rfl (hb hby own_d2_18) rfl ?_
    show Steps p.tables e below (Tk1.setTop (mkF m 19 #[.val (.ref r0), .val (.int p1), .val (.int 0)] [(.int 0), (.int p1), (.ref r0), (.double (FP.ddiv (0 : UInt64) (4611686018427387904 : UInt64)))])) _
    refine stk2 _ ?_
    refine XS.daddS Xk2.here hx rfl (hb hby own_d2_22) rfl nn22 rfl ?_
    refine XS.aloadN Xk2.here hx rfl (hb hby own_d2_23) rfl rfl ?_
    refine XS.iloadN Xk2.here hx rfl (hb hby own_d2_24) rfl ?_
    refine XS.iconst Xk2.here hx rfl (hb hby own_d2_25) ?_
    refine XS.iloadN Xk2.here hx rfl (hb hby own_d2_26) rfl ?_
    refine XS.imul Xk2.here hx rfl (hb hby own_d2_27) rfl ?_
    show Steps p.tables e below (Tk2.setTop (mkF m 28 #[.val (.ref r0), .val (.int p1), .val (.int 0)] [(.int 0), (.int p1), (.ref r0), (.double (FP.dadd (FP.ddiv (0 : UInt64) (4611686018427387904 : UInt64)) x_r0_0))])) _
    refine XS.iconst Xk2.here hx rfl (hb hby own_d2_28) ?_
    refine XS.iadd Xk2.here hx rfl (hb hby own_d2_29) rfl ?_
    refine stk3 _ ?_
    show Steps p.tables e below (Tk3.setTop (mkF m 33 #[.val (.ref r0), .val (.int p1), .val (.int 0)] [(.double x_r0_1), (.double (FP.dadd (FP.ddiv (0 : UInt64) (4611686018427387904 : UInt64)) x_r0_0))])) _
    refine Xk3.ldc2DoubleC hx hown (mvT hZ (own_W hw 13 rfl)) (g := (mkF m 33 #[.val (.ref r0), .val (.int p1), .val (.int 0)] [(.double x_r0_1), (.double (FP.dadd (FP.ddiv (0 : UInt64) (4611686018427387904 : UInt64)) x_r0_0))])) rfl (hb hby own_d2_33) _ ?_
    refine XS.ddivS Xk3.here hx rfl (hb hby own_d2_36) rfl nn36 rfl ?_
    refine XS.daddS Xk3.here hx rfl (hb hby own_d2_37) rfl nn37 rfl ?_
    show Steps p.tables e below (Tk3.setTop (mkF m 38 #[.val (.ref r0), .val (.int p1), .val (.int 0)] [(.double (FP.dadd (FP.dadd (FP.ddiv (0 : UInt64) (4611686018427387904 : UInt64)) x_r0_0) (FP.ddiv x_r0_1 (4611686018427387904 : UInt64))))])) _
    exact own_retD Xk3 hx Bd.returns (hb hby own_d2_38) hr
  · show own_Qex02 Z r0 p1 k_r0 x_r0_0 x_r0_1 x_r0_2 x_r0_3 x_r0_4 x_r0_5 x_r0_6 x_r0_7 h0 n0 _ Tk3.heap _
    rw [ek3]
    exact ⟨rfl, Nk3, rfl⟩
def own_rex12_0 (x_r0_1 : UInt64) : UInt64 := (FP.dadd (FP.dadd (FP.ddiv x_r0_1 (4611686018427387904 : UInt64)) (0 : UInt64)) (FP.ddiv (0 : UInt64) (4611686018427387904 : UInt64)))
theorem own_efex12 (m : MethodId) (r0 : Addr) (p1 : Int32) : entryFrame m #[(.ref r0), (.int p1), (.int 1)] 3 = mkF m 0 #[.val (.ref r0), .val (.int p1), .val (.int 1)] [] := by first | (simp [entryFrame, mkF, argsToLocals, Value.category]; done) | rfl
def own_Qex12 (Z : State) (r0 : Addr) (p1 : Int32) (k_r0 : ClassId) (x_r0_0 : UInt64) (x_r0_1 : UInt64) (x_r0_2 : UInt64) (x_r0_3 : UInt64) (x_r0_4 : UInt64) (x_r0_5 : UInt64) (x_r0_6 : UInt64) (x_r0_7 : UInt64) (h0 : Heap) (n0 : Nat) (v : Option Value) (h : Heap) (L : List Loc) : Prop := v = some (.double (own_rex12_0 x_r0_1)) ∧ Fr n0 L ∧ h = h0
set_option maxRecDepth 65536 in
set_option maxHeartbeats 40000000 in
theorem own_rmex12 (l : Launch) (Z : State) (a0 : Array Value) (hw : ∀ d ∈ tables_1, d.before a0 Z = true) (ws : List Jvm.Cond) (r0 : Addr) (p1 : Int32) (k_r0 : ClassId) (x_r0_0 : UInt64) (x_r0_1 : UInt64) (x_r0_2 : UInt64) (x_r0_3 : UInt64) (x_r0_4 : UInt64) (x_r0_5 : UInt64) (x_r0_6 : UInt64) (x_r0_7 : UInt64) (h0 : Heap) (n0 : Nat) (Z0 : n0 ≤ h0.size) (V_r0 : Arv Z h0 r0 k_r0 .double (8 : Int32) [(.double x_r0_0), (.double x_r0_1), (.double x_r0_2), (.double x_r0_3), (.double x_r0_4), (.double x_r0_5), (.double x_r0_6), (.double x_r0_7)] (.double 0)) (c7_hc6 : (1 : Int32) < p1) (nn13 : NoNaN64 (FP.ddiv x_r0_1 (4611686018427387904 : UInt64))) (c19_hc6 : ¬ ((2 : Int32) < p1)) (nn22 : NoNaN64 (FP.dadd (FP.ddiv x_r0_1 (4611686018427387904 : UInt64)) (0 : UInt64))) (c30_hc6 : ¬ ((3 : Int32) < p1)) (nn36 : NoNaN64 (FP.ddiv (0 : UInt64) (4611686018427387904 : UInt64))) (nn37 : NoNaN64 (FP.dadd (FP.dadd (FP.ddiv x_r0_1 (4611686018427387904 : UInt64)) (0 : UInt64)) (FP.ddiv (0 : UInt64) (4611686018427387904 : UInt64)))) :
    MetFree l (⟨"com/example/surepath/surepath/LatticesHalvedPinLaw", "expect", "([DII)D"⟩ : MethodName) (head1 (Jvm.Cond.code (⟨"com/example/surepath/surepath/LatticesHalvedPinLaw", "expect", "([DII)D"⟩ : MethodName) method_3_code 3 (some .double) :: ws) ({ frames := 1, cells := 0, slots := 0, locals := 16 } : Room)) (fun a U => a = #[(.ref r0), (.int p1), (.int 1)] ∧ Z.Warmed39 U.vm ∧ U.heap = h0) (fun _ _ _ _ _ => True) (fun _ U o U' => ∃ v L, o = .returned v ∧ own_Qex12 Z r0 p1 k_r0 x_r0_0 x_r0_1 x_r0_2 x_r0_3 x_r0_4 x_r0_5 x_r0_6 x_r0_7 h0 n0 v U'.heap L ∧ FrameEnd U o U' L ({ frames := 1, cells := 0, slots := 0, locals := 16 } : Room).cells ({ frames := 1, cells := 0, slots := 0, locals := 16 } : Room).slots) := by
  refine MetFree.of_bodySF (plainFor_of_name own_pn0) hisR ?_
  intro p e s m args below meth c s₁ Bd hml0 hP hK
  obtain ⟨rfl, hZ, hh⟩ := hP
  have hx := Bd.exec
  have hby := Bd.bytes
  have hml : c.maxLocals = 3 := hml0
  have hown : s.vm.findClass "com/example/surepath/surepath/LatticesHalvedPinLaw" = some m.cls := findClass_of_methodNamed Bd.named
  have hnm := (name_of_methodNamed Bd.named Bd.method).1
  have X0 : Stand p l e ({ frames := 1, cells := 0, slots := 0, locals := 16 } : Room) s m #[(.ref r0), (.int p1), (.int 1)] below meth c s₁ [] 0 0 := Stand.of_body Bd
  have e0 : s₁.heap = h0 := by rw [← hh, Bd.state]; rfl
  have N0 := Fr.nil n0
  have Zr : h0.size ≤ h0.size := Nat.le_refl _
  have pre0 : ∀ t, Steps p.tables e below (s₁.setTop (mkF m 0 #[.val (.ref r0), .val (.int p1), .val (.int 1)] [])) t → Steps p.tables e below (s₁.setTop (entryFrame m #[(.ref r0), (.int p1), (.int 1)] 3)) t := fun t k => castTop (own_efex12 m r0 p1) k
  obtain ⟨_, _, ⟨Tk1, Lk1, kk1, nk1⟩, -, Xk1, ⟨Lck1, hQk1, lk1, yk1, zk1⟩, stk1⟩ := Jvm.LawKit.callS X0 hx (y := (⟨"com/example/surepath/surepath/LatticesHalvedPinLaw", "at", "([DII)D"⟩ : MethodName)) hown (mvT hZ (own_W hw 10 rfl)) (mvT hZ (own_W hw 11 rfl)) (mvT hZ (own_W hw 8 rfl)) (mvT hZ (own_W hw 12 rfl)) (by decide) (backOf (W := 0) (own_rmatB1 l Z a0 hw [] r0 p1 k_r0 x_r0_0 x_r0_1 x_r0_2 x_r0_3 x_r0_4 x_r0_5 x_r0_6 x_r0_7 h0 n0 Z0 V_r0 c7_hc6) hZ (own_W hw 12 rfl) (own_W hw 8 rfl) (by decide) (by decide)) (g := (mkF m 7 #[.val (.ref r0), .val (.int p1), .val (.int 1)] [(.int 1), (.int p1), (.ref r0)])) rfl (by rw [hml]; rfl) (argsL := [(.ref r0), (.int p1), (.int 1)]) (rest := []) (lenOf own_pd0 rfl) rfl (by show 2 * 0 + _ ≤ _; exact Nat.le_of_eq rfl) (hb hby own_d2_7) (fun _ _ => ⟨rfl, e0, (by decide : 0 + 0 ≤ _), (by decide : 0 + 0 ≤ _)⟩)
  dsimp only [Pt.U, Pt.locs, Pt.cells, Pt.slots] at Xk1 lk1 yk1 zk1 stk1 hQk1
  replace lk1 := lk1.symm; replace yk1 := yk1.symm; replace zk1 := zk1.symm; subst lk1 yk1 zk1
  obtain ⟨rfl, Nk1q, ek1⟩ := hQk1
  have Nk1 := Fr.app N0 Nk1q
  obtain ⟨_, _, ⟨Tk2, Lk2, kk2, nk2⟩, -, Xk2, ⟨Lck2, hQk2, lk2, yk2, zk2⟩, stk2⟩ := Jvm.LawKit.callS Xk1 hx (y := (⟨"com/example/surepath/surepath/LatticesHalvedPinLaw", "at", "([DII)D"⟩ : MethodName)) hown (mvT hZ (own_W hw 10 rfl)) (mvT hZ (own_W hw 11 rfl)) (mvT hZ (own_W hw 8 rfl)) (mvT hZ (own_W hw 12 rfl)) (by decide) (backOf (W := 2) (own_rmatC l Z a0 hw [] r0 p1 (2 : Int32) h0 n0 Z0 (by decide) c19_hc6) hZ (own_W hw 12 rfl) (own_W hw 8 rfl) (by decide) (by decide)) (g := (mkF m 19 #[.val (.ref r0), .val (.int p1), .val (.int 1)] [(.int 2), (.int p1), (.ref r0), (.double (FP.ddiv x_r0_1 (4611686018427387904 : UInt64)))])) rfl (by rw [hml]; rfl) (argsL := [(.ref r0), (.int p1), (.int 2)]) (rest := [(.double (FP.ddiv x_r0_1 (4611686018427387904 : UInt64)))]) (lenOf own_pd0 rfl) rfl (by show 2 * 0 + _ ≤ _; exact Nat.le_of_eq rfl) (hb hby own_d2_19) (fun _ _ => ⟨rfl, ek1, (by decide : 0 + 0 ≤ _), (by decide : 0 + 0 ≤ _)⟩)
  dsimp only [Pt.U, Pt.locs, Pt.cells, Pt.slots] at Xk2 lk2 yk2 zk2 stk2 hQk2
  replace lk2 := lk2.symm; replace yk2 := yk2.symm; replace zk2 := zk2.symm; subst lk2 yk2 zk2
  obtain ⟨rfl, Nk2q, ek2⟩ := hQk2
  have Nk2 := Fr.app Nk1 Nk2q
  obtain ⟨_, _, ⟨Tk3, Lk3, kk3, nk3⟩, -, Xk3, ⟨Lck3, hQk3, lk3, yk3, zk3⟩, stk3⟩ := Jvm.LawKit.callS Xk2 hx (y := (⟨"com/example/surepath/surepath/LatticesHalvedPinLaw", "at", "([DII)D"⟩ : MethodName)) hown (mvT hZ (own_W hw 10 rfl)) (mvT hZ (own_W hw 11 rfl)) (mvT hZ (own_W hw 8 rfl)) (mvT hZ (own_W hw 12 rfl)) (by decide) (backOf (W := 2) (own_rmatC l Z a0 hw [] r0 p1 (3 : Int32) h0 n0 Z0 (by decide) c30_hc6) hZ (own_W hw 12 rfl) (own_W hw 8 rfl) (by decide) (by decide)) (g := (mkF m 30 #[.val (.ref r0), .val (.int p1), .val (.int 1)] [(.int 3), (.int p1), (.ref r0), (.double (FP.dadd (FP.ddiv x_r0_1 (4611686018427387904 : UInt64)) (0 : UInt64)))])) rfl (by rw [hml]; rfl) (argsL := [(.ref r0), (.int p1), (.int 3)]) (rest := [(.double (FP.dadd (FP.ddiv x_r0_1 (4611686018427387904 : UInt64)) (0 : UInt64)))]) (lenOf own_pd0 rfl) rfl (by show 2 * 0 + _ ≤ _; exact Nat.le_of_eq rfl) (hb hby own_d2_30) (fun _ _ => ⟨rfl, ek2, (by decide : 0 + 0 ≤ _), (by decide : 0 + 0 ≤ _)⟩)
  dsimp only [Pt.U, Pt.locs, Pt.cells, Pt.slots] at Xk3 lk3 yk3 zk3 stk3 hQk3
  replace lk3 := lk3.symm; replace yk3 := yk3.symm; replace zk3 := zk3.symm; subst lk3 yk3 zk3
  obtain ⟨rfl, Nk3q, ek3⟩ := hQk3
  have Nk3 := Fr.app Nk2 Nk3q
  obtain ⟨fs, hr, hrun, hended, hW, hsame⟩ := Xk3.leave (v := some (.double (FP.dadd (FP.dadd (FP.ddiv x_r0_1 (4611686018427387904 : UInt64)) (0 : UInt64)) (FP.ddiv (0 : UInt64) (4611686018427387904 : UInt64))))) (fun h => by rw [Bd.returns] at h; cases h)
  refine ⟨_, _, pre0 _ (?_), hrun, hended, _, _, rfl, ?_, ⟨_, rfl⟩, hW, hsame.mono (by decide) (by decide)⟩
  · show Steps p.tables e below (s₁.setTop (mkF m 0 #[.val (.ref r0), .val (.int p1), .val (.int 1)] [])) _
    refine XS.aloadN X0.here hx rfl (hb hby own_d2_0) rfl rfl ?_
    refine XS.iloadN X0.here hx rfl (hb hby own_d2_1) rfl ?_
    refine XS.iconst X0.here hx rfl (hb hby own_d2_2) ?_
    refine XS.iloadN X0.here hx rfl (hb hby own_d2_3) rfl ?_
    refine XS.imul X0.here hx rfl (hb hby own_d2_4) rfl ?_
    show Steps p.tables e below (s₁.setTop (mkF m 5 #[.val (.ref r0), .val (.int p1), .val (.int 1)] [(.int 2), (.int p1), (.ref r0)])) _
    refine XS.iconst X0.here hx rfl (hb hby own_d2_5) ?_
    refine XS.isub X0.here hx rfl (hb hby own_d2_6) rfl ?_
    refine stk1 _ ?_
    show Steps p.tables e below (Tk1.setTop (mkF m 10 #[.val (.ref r0), .val (.int p1), .val (.int 1)] [(.double x_r0_1)])) _
    refine Xk1.ldc2DoubleC hx hown (mvT hZ (own_W hw 13 rfl)) (g := (mkF m 10 #[.val (.ref r0), .val (.int p1), .val (.int 1)] [(.double x_r0_1)])) rfl (hb hby own_d2_10) _ ?_
    refine XS.ddivS Xk1.here hx rfl (hb hby own_d2_13) rfl nn13 rfl ?_
    refine XS.aloadN Xk1.here hx rfl (hb hby own_d2_14) rfl rfl ?_
    refine XS.iloadN Xk1.here hx rfl (hb hby own_d2_15) rfl ?_
    refine XS.iconst Xk1.here hx rfl (hb hby own_d2_16) ?_
    refine XS.iloadN Xk1.here hx rfl (hb hby own_d2_17) rfl ?_
    refine XS.imul Xk1.here hx rfl (hb hby own_d2_18) rfl ?_
    show Steps p.tables e below (Tk1.setTop (mkF m 19 #[.val (.ref r0), .val (.int p1), .val (.int 1)] [(.int 2), (.int p1), (.ref r0), (.double (FP.ddiv x_r0_1 (4611686018427387904 : UInt64)))])) _
    refine stk2 _ ?_
    refine XS.daddS Xk2.here hx rfl (hb hby own_d2_22) rfl nn22 rfl ?_
    refine XS.aloadN Xk2.here hx rfl (hb hby own_d2_23) rfl rfl ?_
    refine XS.iloadN Xk2.here hx rfl (hb hby own_d2_24) rfl ?_
    refine XS.iconst Xk2.here hx rfl (hb hby own_d2_25) ?_
    refine XS.iloadN Xk2.here hx rfl (hb hby own_d2_26) rfl ?_
    refine XS.imul Xk2.here hx rfl (hb hby own_d2_27) rfl ?_
    show Steps p.tables e below (Tk2.setTop (mkF m 28 #[.val (.ref r0), .val (.int p1), .val (.int 1)] [(.int 2), (.int p1), (.ref r0), (.double (FP.dadd (FP.ddiv x_r0_1 (4611686018427387904 : UInt64)) (0 : UInt64)))])) _
    refine XS.iconst Xk2.here hx rfl (hb hby own_d2_28) ?_
    refine XS.iadd Xk2.here hx rfl (hb hby own_d2_29) rfl ?_
    refine stk3 _ ?_
    show Steps p.tables e below (Tk3.setTop (mkF m 33 #[.val (.ref r0), .val (.int p1), .val (.int 1)] [(.double 0), (.double (FP.dadd (FP.ddiv x_r0_1 (4611686018427387904 : UInt64)) (0 : UInt64)))])) _
    refine Xk3.ldc2DoubleC hx hown (mvT hZ (own_W hw 13 rfl)) (g := (mkF m 33 #[.val (.ref r0), .val (.int p1), .val (.int 1)] [(.double 0), (.double (FP.dadd (FP.ddiv x_r0_1 (4611686018427387904 : UInt64)) (0 : UInt64)))])) rfl (hb hby own_d2_33) _ ?_
    refine XS.ddivS Xk3.here hx rfl (hb hby own_d2_36) rfl nn36 rfl ?_
    refine XS.daddS Xk3.here hx rfl (hb hby own_d2_37) rfl nn37 rfl ?_
    show Steps p.tables e below (Tk3.setTop (mkF m 38 #[.val (.ref r0), .val (.int p1), .val (.int 1)] [(.double (FP.dadd (FP.dadd (FP.ddiv x_r0_1 (4611686018427387904 : UInt64)) (0 : UInt64)) (FP.ddiv (0 : UInt64) (4611686018427387904 : UInt64))))])) _
    exact own_retD Xk3 hx Bd.returns (hb hby own_d2_38) hr
  · show own_Qex12 Z r0 p1 k_r0 x_r0_0 x_r0_1 x_r0_2 x_r0_3 x_r0_4 x_r0_5 x_r0_6 x_r0_7 h0 n0 _ Tk3.heap _
    rw [ek3]
    exact ⟨rfl, Nk3, rfl⟩
def own_rex13_0 (x_r0_1 : UInt64) (x_r0_2 : UInt64) : UInt64 := (FP.dadd (FP.dadd (FP.ddiv x_r0_1 (4611686018427387904 : UInt64)) x_r0_2) (FP.ddiv (0 : UInt64) (4611686018427387904 : UInt64)))
theorem own_efex13 (m : MethodId) (r0 : Addr) (p1 : Int32) : entryFrame m #[(.ref r0), (.int p1), (.int 1)] 3 = mkF m 0 #[.val (.ref r0), .val (.int p1), .val (.int 1)] [] := by first | (simp [entryFrame, mkF, argsToLocals, Value.category]; done) | rfl
def own_Qex13 (Z : State) (r0 : Addr) (p1 : Int32) (k_r0 : ClassId) (x_r0_0 : UInt64) (x_r0_1 : UInt64) (x_r0_2 : UInt64) (x_r0_3 : UInt64) (x_r0_4 : UInt64) (x_r0_5 : UInt64) (x_r0_6 : UInt64) (x_r0_7 : UInt64) (h0 : Heap) (n0 : Nat) (v : Option Value) (h : Heap) (L : List Loc) : Prop := v = some (.double (own_rex13_0 x_r0_1 x_r0_2)) ∧ Fr n0 L ∧ h = h0
set_option maxRecDepth 65536 in
set_option maxHeartbeats 40000000 in
theorem own_rmex13 (l : Launch) (Z : State) (a0 : Array Value) (hw : ∀ d ∈ tables_1, d.before a0 Z = true) (ws : List Jvm.Cond) (r0 : Addr) (p1 : Int32) (k_r0 : ClassId) (x_r0_0 : UInt64) (x_r0_1 : UInt64) (x_r0_2 : UInt64) (x_r0_3 : UInt64) (x_r0_4 : UInt64) (x_r0_5 : UInt64) (x_r0_6 : UInt64) (x_r0_7 : UInt64) (h0 : Heap) (n0 : Nat) (Z0 : n0 ≤ h0.size) (V_r0 : Arv Z h0 r0 k_r0 .double (8 : Int32) [(.double x_r0_0), (.double x_r0_1), (.double x_r0_2), (.double x_r0_3), (.double x_r0_4), (.double x_r0_5), (.double x_r0_6), (.double x_r0_7)] (.double 0)) (c7_hc6 : (1 : Int32) < p1) (nn13 : NoNaN64 (FP.ddiv x_r0_1 (4611686018427387904 : UInt64))) (c19_hc6 : (2 : Int32) < p1) (nn22 : NoNaN64 (FP.dadd (FP.ddiv x_r0_1 (4611686018427387904 : UInt64)) x_r0_2)) (c30_hc6 : ¬ ((3 : Int32) < p1)) (nn36 : NoNaN64 (FP.ddiv (0 : UInt64) (4611686018427387904 : UInt64))) (nn37 : NoNaN64 (FP.dadd (FP.dadd (FP.ddiv x_r0_1 (4611686018427387904 : UInt64)) x_r0_2) (FP.ddiv (0 : UInt64) (4611686018427387904 : UInt64)))) :
    MetFree l (⟨"com/example/surepath/surepath/LatticesHalvedPinLaw", "expect", "([DII)D"⟩ : MethodName) (head1 (Jvm.Cond.code (⟨"com/example/surepath/surepath/LatticesHalvedPinLaw", "expect", "([DII)D"⟩ : MethodName) method_3_code 3 (some .double) :: ws) ({ frames := 1, cells := 0, slots := 0, locals := 16 } : Room)) (fun a U => a = #[(.ref r0), (.int p1), (.int 1)] ∧ Z.Warmed39 U.vm ∧ U.heap = h0) (fun _ _ _ _ _ => True) (fun _ U o U' => ∃ v L, o = .returned v ∧ own_Qex13 Z r0 p1 k_r0 x_r0_0 x_r0_1 x_r0_2 x_r0_3 x_r0_4 x_r0_5 x_r0_6 x_r0_7 h0 n0 v U'.heap L ∧ FrameEnd U o U' L ({ frames := 1, cells := 0, slots := 0, locals := 16 } : Room).cells ({ frames := 1, cells := 0, slots := 0, locals := 16 } : Room).slots) := by
  refine MetFree.of_bodySF (plainFor_of_name own_pn0) hisR ?_
  intro p e s m args below meth c s₁ Bd hml0 hP hK
  obtain ⟨rfl, hZ, hh⟩ := hP
  have hx := Bd.exec
  have hby := Bd.bytes
  have hml : c.maxLocals = 3 := hml0
  have hown : s.vm.findClass "com/example/surepath/surepath/LatticesHalvedPinLaw" = some m.cls := findClass_of_methodNamed Bd.named
  have hnm := (name_of_methodNamed Bd.named Bd.method).1
  have X0 : Stand p l e ({ frames := 1, cells := 0, slots := 0, locals := 16 } : Room) s m #[(.ref r0), (.int p1), (.int 1)] below meth c s₁ [] 0 0 := Stand.of_body Bd
  have e0 : s₁.heap = h0 := by rw [← hh, Bd.state]; rfl
  have N0 := Fr.nil n0
  have Zr : h0.size ≤ h0.size := Nat.le_refl _
  have pre0 : ∀ t, Steps p.tables e below (s₁.setTop (mkF m 0 #[.val (.ref r0), .val (.int p1), .val (.int 1)] [])) t → Steps p.tables e below (s₁.setTop (entryFrame m #[(.ref r0), (.int p1), (.int 1)] 3)) t := fun t k => castTop (own_efex13 m r0 p1) k
  obtain ⟨_, _, ⟨Tk1, Lk1, kk1, nk1⟩, -, Xk1, ⟨Lck1, hQk1, lk1, yk1, zk1⟩, stk1⟩ := Jvm.LawKit.callS X0 hx (y := (⟨"com/example/surepath/surepath/LatticesHalvedPinLaw", "at", "([DII)D"⟩ : MethodName)) hown (mvT hZ (own_W hw 10 rfl)) (mvT hZ (own_W hw 11 rfl)) (mvT hZ (own_W hw 8 rfl)) (mvT hZ (own_W hw 12 rfl)) (by decide) (backOf (W := 0) (own_rmatB1 l Z a0 hw [] r0 p1 k_r0 x_r0_0 x_r0_1 x_r0_2 x_r0_3 x_r0_4 x_r0_5 x_r0_6 x_r0_7 h0 n0 Z0 V_r0 c7_hc6) hZ (own_W hw 12 rfl) (own_W hw 8 rfl) (by decide) (by decide)) (g := (mkF m 7 #[.val (.ref r0), .val (.int p1), .val (.int 1)] [(.int 1), (.int p1), (.ref r0)])) rfl (by rw [hml]; rfl) (argsL := [(.ref r0), (.int p1), (.int 1)]) (rest := []) (lenOf own_pd0 rfl) rfl (by show 2 * 0 + _ ≤ _; exact Nat.le_of_eq rfl) (hb hby own_d2_7) (fun _ _ => ⟨rfl, e0, (by decide : 0 + 0 ≤ _), (by decide : 0 + 0 ≤ _)⟩)
  dsimp only [Pt.U, Pt.locs, Pt.cells, Pt.slots] at Xk1 lk1 yk1 zk1 stk1 hQk1
  replace lk1 := lk1.symm; replace yk1 := yk1.symm; replace zk1 := zk1.symm; subst lk1 yk1 zk1
  obtain ⟨rfl, Nk1q, ek1⟩ := hQk1
  have Nk1 := Fr.app N0 Nk1q
  obtain ⟨_, _, ⟨Tk2, Lk2, kk2, nk2⟩, -, Xk2, ⟨Lck2, hQk2, lk2, yk2, zk2⟩, stk2⟩ := Jvm.LawKit.callS Xk1 hx (y := (⟨"com/example/surepath/surepath/LatticesHalvedPinLaw", "at", "([DII)D"⟩ : MethodName)) hown (mvT hZ (own_W hw 10 rfl)) (mvT hZ (own_W hw 11 rfl)) (mvT hZ (own_W hw 8 rfl)) (mvT hZ (own_W hw 12 rfl)) (by decide) (backOf (W := 2) (own_rmatB2 l Z a0 hw [] r0 p1 k_r0 x_r0_0 x_r0_1 x_r0_2 x_r0_3 x_r0_4 x_r0_5 x_r0_6 x_r0_7 h0 n0 Z0 V_r0 c19_hc6) hZ (own_W hw 12 rfl) (own_W hw 8 rfl) (by decide) (by decide)) (g := (mkF m 19 #[.val (.ref r0), .val (.int p1), .val (.int 1)] [(.int 2), (.int p1), (.ref r0), (.double (FP.ddiv x_r0_1 (4611686018427387904 : UInt64)))])) rfl (by rw [hml]; rfl) (argsL := [(.ref r0), (.int p1), (.int 2)]) (rest := [(.double (FP.ddiv x_r0_1 (4611686018427387904 : UInt64)))]) (lenOf own_pd0 rfl) rfl (by show 2 * 0 + _ ≤ _; exact Nat.le_of_eq rfl) (hb hby own_d2_19) (fun _ _ => ⟨rfl, ek1, (by decide : 0 + 0 ≤ _), (by decide : 0 + 0 ≤ _)⟩)
  dsimp only [Pt.U, Pt.locs, Pt.cells, Pt.slots] at Xk2 lk2 yk2 zk2 stk2 hQk2
  replace lk2 := lk2.symm; replace yk2 := yk2.symm; replace zk2 := zk2.symm; subst lk2 yk2 zk2
  obtain ⟨rfl, Nk2q, ek2⟩ := hQk2
  have Nk2 := Fr.app Nk1 Nk2q
  obtain ⟨_, _, ⟨Tk3, Lk3, kk3, nk3⟩, -, Xk3, ⟨Lck3, hQk3, lk3, yk3, zk3⟩, stk3⟩ := Jvm.LawKit.callS Xk2 hx (y := (⟨"com/example/surepath/surepath/LatticesHalvedPinLaw", "at", "([DII)D"⟩ : MethodName)) hown (mvT hZ (own_W hw 10 rfl)) (mvT hZ (own_W hw 11 rfl)) (mvT hZ (own_W hw 8 rfl)) (mvT hZ (own_W hw 12 rfl)) (by decide) (backOf (W := 2) (own_rmatC l Z a0 hw [] r0 p1 (3 : Int32) h0 n0 Z0 (by decide) c30_hc6) hZ (own_W hw 12 rfl) (own_W hw 8 rfl) (by decide) (by decide)) (g := (mkF m 30 #[.val (.ref r0), .val (.int p1), .val (.int 1)] [(.int 3), (.int p1), (.ref r0), (.double (FP.dadd (FP.ddiv x_r0_1 (4611686018427387904 : UInt64)) x_r0_2))])) rfl (by rw [hml]; rfl) (argsL := [(.ref r0), (.int p1), (.int 3)]) (rest := [(.double (FP.dadd (FP.ddiv x_r0_1 (4611686018427387904 : UInt64)) x_r0_2))]) (lenOf own_pd0 rfl) rfl (by show 2 * 0 + _ ≤ _; exact Nat.le_of_eq rfl) (hb hby own_d2_30) (fun _ _ => ⟨rfl, ek2, (by decide : 0 + 0 ≤ _), (by decide : 0 + 0 ≤ _)⟩)
  dsimp only [Pt.U, Pt.locs, Pt.cells, Pt.slots] at Xk3 lk3 yk3 zk3 stk3 hQk3
  replace lk3 := lk3.symm; replace yk3 := yk3.symm; replace zk3 := zk3.symm; subst lk3 yk3 zk3
  obtain ⟨rfl, Nk3q, ek3⟩ := hQk3
  have Nk3 := Fr.app Nk2 Nk3q
  obtain ⟨fs, hr, hrun, hended, hW, hsame⟩ := Xk3.leave (v := some (.double (FP.dadd (FP.dadd (FP.ddiv x_r0_1 (4611686018427387904 : UInt64)) x_r0_2) (FP.ddiv (0 : UInt64) (4611686018427387904 : UInt64))))) (fun h => by rw [Bd.returns] at h; cases h)
  refine ⟨_, _, pre0 _ (?_), hrun, hended, _, _, rfl, ?_, ⟨_, rfl⟩, hW, hsame.mono (by decide) (by decide)⟩
  · show Steps p.tables e below (s₁.setTop (mkF m 0 #[.val (.ref r0), .val (.int p1), .val (.int 1)] [])) _
    refine XS.aloadN X0.here hx rfl (hb hby own_d2_0) rfl rfl ?_
    refine XS.iloadN X0.here hx rfl (hb hby own_d2_1) rfl ?_
    refine XS.iconst X0.here hx rfl (hb hby own_d2_2) ?_
    refine XS.iloadN X0.here hx rfl (hb hby own_d2_3) rfl ?_
    refine XS.imul X0.here hx rfl (hb hby own_d2_4) rfl ?_
    show Steps p.tables e below (s₁.setTop (mkF m 5 #[.val (.ref r0), .val (.int p1), .val (.int 1)] [(.int 2), (.int p1), (.ref r0)])) _
    refine XS.iconst X0.here hx rfl (hb hby own_d2_5) ?_
    refine XS.isub X0.here hx rfl (hb hby own_d2_6) rfl ?_
    refine stk1 _ ?_
    show Steps p.tables e below (Tk1.setTop (mkF m 10 #[.val (.ref r0), .val (.int p1), .val (.int 1)] [(.double x_r0_1)])) _
    refine Xk1.ldc2DoubleC hx hown (mvT hZ (own_W hw 13 rfl)) (g := (mkF m 10 #[.val (.ref r0), .val (.int p1), .val (.int 1)] [(.double x_r0_1)])) rfl (hb hby own_d2_10) _ ?_
    refine XS.ddivS Xk1.here hx rfl (hb hby own_d2_13) rfl nn13 rfl ?_
    refine XS.aloadN Xk1.here hx rfl (hb hby own_d2_14) rfl rfl ?_
    refine XS.iloadN Xk1.here hx rfl (hb hby own_d2_15) rfl ?_
    refine XS.iconst Xk1.here hx rfl (hb hby own_d2_16) ?_
    refine XS.iloadN Xk1.here hx rfl (hb hby own_d2_17) rfl ?_
    refine XS.imul Xk1.here hx rfl (hb hby own_d2_18) rfl ?_
    show Steps p.tables e below (Tk1.setTop (mkF m 19 #[.val (.ref r0), .val (.int p1), .val (.int 1)] [(.int 2), (.int p1), (.ref r0), (.double (FP.ddiv x_r0_1 (4611686018427387904 : UInt64)))])) _
    refine stk2 _ ?_
    refine XS.daddS Xk2.here hx rfl (hb hby own_d2_22) rfl nn22 rfl ?_
    refine XS.aloadN Xk2.here hx rfl (hb hby own_d2_23) rfl rfl ?_
    refine XS.iloadN Xk2.here hx rfl (hb hby own_d2_24) rfl ?_
    refine XS.iconst Xk2.here hx rfl (hb hby own_d2_25) ?_
    refine XS.iloadN Xk2.here hx rfl (hb hby own_d2_26) rfl ?_
    refine XS.imul Xk2.here hx rfl (hb hby own_d2_27) rfl ?_
    show Steps p.tables e below (Tk2.setTop (mkF m 28 #[.val (.ref r0), .val (.int p1), .val (.int 1)] [(.int 2), (.int p1), (.ref r0), (.double (FP.dadd (FP.ddiv x_r0_1 (4611686018427387904 : UInt64)) x_r0_2))])) _
    refine XS.iconst Xk2.here hx rfl (hb hby own_d2_28) ?_
    refine XS.iadd Xk2.here hx rfl (hb hby own_d2_29) rfl ?_
    refine stk3 _ ?_
    show Steps p.tables e below (Tk3.setTop (mkF m 33 #[.val (.ref r0), .val (.int p1), .val (.int 1)] [(.double 0), (.double (FP.dadd (FP.ddiv x_r0_1 (4611686018427387904 : UInt64)) x_r0_2))])) _
    refine Xk3.ldc2DoubleC hx hown (mvT hZ (own_W hw 13 rfl)) (g := (mkF m 33 #[.val (.ref r0), .val (.int p1), .val (.int 1)] [(.double 0), (.double (FP.dadd (FP.ddiv x_r0_1 (4611686018427387904 : UInt64)) x_r0_2))])) rfl (hb hby own_d2_33) _ ?_
    refine XS.ddivS Xk3.here hx rfl (hb hby own_d2_36) rfl nn36 rfl ?_
    refine XS.daddS Xk3.here hx rfl (hb hby own_d2_37) rfl nn37 rfl ?_
    show Steps p.tables e below (Tk3.setTop (mkF m 38 #[.val (.ref r0), .val (.int p1), .val (.int 1)] [(.double (FP.dadd (FP.dadd (FP.ddiv x_r0_1 (4611686018427387904 : UInt64)) x_r0_2) (FP.ddiv (0 : UInt64) (4611686018427387904 : UInt64))))])) _
    exact own_retD Xk3 hx Bd.returns (hb hby own_d2_38) hr
  · show own_Qex13 Z r0 p1 k_r0 x_r0_0 x_r0_1 x_r0_2 x_r0_3 x_r0_4 x_r0_5 x_r0_6 x_r0_7 h0 n0 _ Tk3.heap _
    rw [ek3]
    exact ⟨rfl, Nk3, rfl⟩
def own_rex14_0 (x_r0_1 : UInt64) (x_r0_2 : UInt64) (x_r0_3 : UInt64) : UInt64 := (FP.dadd (FP.dadd (FP.ddiv x_r0_1 (4611686018427387904 : UInt64)) x_r0_2) (FP.ddiv x_r0_3 (4611686018427387904 : UInt64)))
theorem own_efex14 (m : MethodId) (r0 : Addr) (p1 : Int32) : entryFrame m #[(.ref r0), (.int p1), (.int 1)] 3 = mkF m 0 #[.val (.ref r0), .val (.int p1), .val (.int 1)] [] := by first | (simp [entryFrame, mkF, argsToLocals, Value.category]; done) | rfl
def own_Qex14 (Z : State) (r0 : Addr) (p1 : Int32) (k_r0 : ClassId) (x_r0_0 : UInt64) (x_r0_1 : UInt64) (x_r0_2 : UInt64) (x_r0_3 : UInt64) (x_r0_4 : UInt64) (x_r0_5 : UInt64) (x_r0_6 : UInt64) (x_r0_7 : UInt64) (h0 : Heap) (n0 : Nat) (v : Option Value) (h : Heap) (L : List Loc) : Prop := v = some (.double (own_rex14_0 x_r0_1 x_r0_2 x_r0_3)) ∧ Fr n0 L ∧ h = h0
set_option maxRecDepth 65536 in
set_option maxHeartbeats 40000000 in
theorem own_rmex14 (l : Launch) (Z : State) (a0 : Array Value) (hw : ∀ d ∈ tables_1, d.before a0 Z = true) (ws : List Jvm.Cond) (r0 : Addr) (p1 : Int32) (k_r0 : ClassId) (x_r0_0 : UInt64) (x_r0_1 : UInt64) (x_r0_2 : UInt64) (x_r0_3 : UInt64) (x_r0_4 : UInt64) (x_r0_5 : UInt64) (x_r0_6 : UInt64) (x_r0_7 : UInt64) (h0 : Heap) (n0 : Nat) (Z0 : n0 ≤ h0.size) (V_r0 : Arv Z h0 r0 k_r0 .double (8 : Int32) [(.double x_r0_0), (.double x_r0_1), (.double x_r0_2), (.double x_r0_3), (.double x_r0_4), (.double x_r0_5), (.double x_r0_6), (.double x_r0_7)] (.double 0)) (c7_hc6 : (1 : Int32) < p1) (nn13 : NoNaN64 (FP.ddiv x_r0_1 (4611686018427387904 : UInt64))) (c19_hc6 : (2 : Int32) < p1) (nn22 : NoNaN64 (FP.dadd (FP.ddiv x_r0_1 (4611686018427387904 : UInt64)) x_r0_2)) (c30_hc6 : (3 : Int32) < p1) (nn36 : NoNaN64 (FP.ddiv x_r0_3 (4611686018427387904 : UInt64))) (nn37 : NoNaN64 (FP.dadd (FP.dadd (FP.ddiv x_r0_1 (4611686018427387904 : UInt64)) x_r0_2) (FP.ddiv x_r0_3 (4611686018427387904 : UInt64)))) :
    MetFree l (⟨"com/example/surepath/surepath/LatticesHalvedPinLaw", "expect", "([DII)D"⟩ : MethodName) (head1 (Jvm.Cond.code (⟨"com/example/surepath/surepath/LatticesHalvedPinLaw", "expect", "([DII)D"⟩ : MethodName) method_3_code 3 (some .double) :: ws) ({ frames := 1, cells := 0, slots := 0, locals := 16 } : Room)) (fun a U => a = #[(.ref r0), (.int p1), (.int 1)] ∧ Z.Warmed39 U.vm ∧ U.heap = h0) (fun _ _ _ _ _ => True) (fun _ U o U' => ∃ v L, o = .returned v ∧ own_Qex14 Z r0 p1 k_r0 x_r0_0 x_r0_1 x_r0_2 x_r0_3 x_r0_4 x_r0_5 x_r0_6 x_r0_7 h0 n0 v U'.heap L ∧ FrameEnd U o U' L ({ frames := 1, cells := 0, slots := 0, locals := 16 } : Room).cells ({ frames := 1, cells := 0, slots := 0, locals := 16 } : Room).slots) := by
  refine MetFree.of_bodySF (plainFor_of_name own_pn0) hisR ?_
  intro p e s m args below meth c s₁ Bd hml0 hP hK
  obtain ⟨rfl, hZ, hh⟩ := hP
  have hx := Bd.exec
  have hby := Bd.bytes
  have hml : c.maxLocals = 3 := hml0
  have hown : s.vm.findClass "com/example/surepath/surepath/LatticesHalvedPinLaw" = some m.cls := findClass_of_methodNamed Bd.named
  have hnm := (name_of_methodNamed Bd.named Bd.method).1
  have X0 : Stand p l e ({ frames := 1, cells := 0, slots := 0, locals := 16 } : Room) s m #[(.ref r0), (.int p1), (.int 1)] below meth c s₁ [] 0 0 := Stand.of_body Bd
  have e0 : s₁.heap = h0 := by rw [← hh, Bd.state]; rfl
  have N0 := Fr.nil n0
  have Zr : h0.size ≤ h0.size := Nat.le_refl _
  have pre0 : ∀ t, Steps p.tables e below (s₁.setTop (mkF m 0 #[.val (.ref r0), .val (.int p1), .val (.int 1)] [])) t → Steps p.tables e below (s₁.setTop (entryFrame m #[(.ref r0), (.int p1), (.int 1)] 3)) t := fun t k => castTop (own_efex14 m r0 p1) k
  obtain ⟨_, _, ⟨Tk1, Lk1, kk1, nk1⟩, -, Xk1, ⟨Lck1, hQk1, lk1, yk1, zk1⟩, stk1⟩ := Jvm.LawKit.callS X0 hx (y := (⟨"com/example/surepath/surepath/LatticesHalvedPinLaw", "at", "([DII)D"⟩ : MethodName)) hown (mvT hZ (own_W hw 10 rfl)) (mvT hZ (own_W hw 11 rfl)) (mvT hZ (own_W hw 8 rfl)) (mvT hZ (own_W hw 12 rfl)) (by decide) (backOf (W := 0) (own_rmatB1 l Z a0 hw [] r0 p1 k_r0 x_r0_0 x_r0_1 x_r0_2 x_r0_3 x_r0_4 x_r0_5 x_r0_6 x_r0_7 h0 n0 Z0 V_r0 c7_hc6) hZ (own_W hw 12 rfl) (own_W hw 8 rfl) (by decide) (by decide)) (g := (mkF m 7 #[.val (.ref r0), .val (.int p1), .val (.int 1)] [(.int 1), (.int p1), (.ref r0)])) rfl (by rw [hml]; rfl) (argsL := [(.ref r0), (.int p1), (.int 1)]) (rest := []) (lenOf own_pd0 rfl) rfl (by show 2 * 0 + _ ≤ _; exact Nat.le_of_eq rfl) (hb hby own_d2_7) (fun _ _ => ⟨rfl, e0, (by decide : 0 + 0 ≤ _), (by decide : 0 + 0 ≤ _)⟩)
  dsimp only [Pt.U, Pt.locs, Pt.cells, Pt.slots] at Xk1 lk1 yk1 zk1 stk1 hQk1
  replace lk1 := lk1.symm; replace yk1 := yk1.symm; replace zk1 := zk1.symm; subst lk1 yk1 zk1
  obtain ⟨rfl, Nk1q, ek1⟩ := hQk1
  have Nk1 := Fr.app N0 Nk1q
  obtain ⟨_, _, ⟨Tk2, Lk2, kk2, nk2⟩, -, Xk2, ⟨Lck2, hQk2, lk2, yk2, zk2⟩, stk2⟩ := Jvm.LawKit.callS Xk1 hx (y := (⟨"com/example/surepath/surepath/LatticesHalvedPinLaw", "at", "([DII)D"⟩ : MethodName)) hown (mvT hZ (own_W hw 10 rfl)) (mvT hZ (own_W hw 11 rfl)) (mvT hZ (own_W hw 8 rfl)) (mvT hZ (own_W hw 12 rfl)) (by decide) (backOf (W := 2) (own_rmatB2 l Z a0 hw [] r0 p1 k_r0 x_r0_0 x_r0_1 x_r0_2 x_r0_3 x_r0_4 x_r0_5 x_r0_6 x_r0_7 h0 n0 Z0 V_r0 c19_hc6) hZ (own_W hw 12 rfl) (own_W hw 8 rfl) (by decide) (by decide)) (g := (mkF m 19 #[.val (.ref r0), .val (.int p1), .val (.int 1)] [(.int 2), (.int p1), (.ref r0), (.double (FP.ddiv x_r0_1 (4611686018427387904 : UInt64)))])) rfl (by rw [hml]; rfl) (argsL := [(.ref r0), (.int p1), (.int 2)]) (rest := [(.double (FP.ddiv x_r0_1 (4611686018427387904 : UInt64)))]) (lenOf own_pd0 rfl) rfl (by show 2 * 0 + _ ≤ _; exact Nat.le_of_eq rfl) (hb hby own_d2_19) (fun _ _ => ⟨rfl, ek1, (by decide : 0 + 0 ≤ _), (by decide : 0 + 0 ≤ _)⟩)
  dsimp only [Pt.U, Pt.locs, Pt.cells, Pt.slots] at Xk2 lk2 yk2 zk2 stk2 hQk2
  replace lk2 := lk2.symm; replace yk2 := yk2.symm; replace zk2 := zk2.symm; subst lk2 yk2 zk2
  obtain ⟨rfl, Nk2q, ek2⟩ := hQk2
  have Nk2 := Fr.app Nk1 Nk2q
  obtain ⟨_, _, ⟨Tk3, Lk3, kk3, nk3⟩, -, Xk3, ⟨Lck3, hQk3, lk3, yk3, zk3⟩, stk3⟩ := Jvm.LawKit.callS Xk2 hx (y := (⟨"com/example/surepath/surepath/LatticesHalvedPinLaw", "at", "([DII)D"⟩ : MethodName)) hown (mvT hZ (own_W hw 10 rfl)) (mvT hZ (own_W hw 11 rfl)) (mvT hZ (own_W hw 8 rfl)) (mvT hZ (own_W hw 12 rfl)) (by decide) (backOf (W := 2) (own_rmatB3 l Z a0 hw [] r0 p1 k_r0 x_r0_0 x_r0_1 x_r0_2 x_r0_3 x_r0_4 x_r0_5 x_r0_6 x_r0_7 h0 n0 Z0 V_r0 c30_hc6) hZ (own_W hw 12 rfl) (own_W hw 8 rfl) (by decide) (by decide)) (g := (mkF m 30 #[.val (.ref r0), .val (.int p1), .val (.int 1)] [(.int 3), (.int p1), (.ref r0), (.double (FP.dadd (FP.ddiv x_r0_1 (4611686018427387904 : UInt64)) x_r0_2))])) rfl (by rw [hml]; rfl) (argsL := [(.ref r0), (.int p1), (.int 3)]) (rest := [(.double (FP.dadd (FP.ddiv x_r0_1 (4611686018427387904 : UInt64)) x_r0_2))]) (lenOf own_pd0 rfl) rfl (by show 2 * 0 + _ ≤ _; exact Nat.le_of_eq rfl) (hb hby own_d2_30) (fun _ _ => ⟨rfl, ek2, (by decide : 0 + 0 ≤ _), (by decide : 0 + 0 ≤ _)⟩)
  dsimp only [Pt.U, Pt.locs, Pt.cells, Pt.slots] at Xk3 lk3 yk3 zk3 stk3 hQk3
  replace lk3 := lk3.symm; replace yk3 := yk3.symm; replace zk3 := zk3.symm; subst lk3 yk3 zk3
  obtain ⟨rfl, Nk3q, ek3⟩ := hQk3
  have Nk3 := Fr.app Nk2 Nk3q
  obtain ⟨fs, hr, hrun, hended, hW, hsame⟩ := Xk3.leave (v := some (.double (FP.dadd (FP.dadd (FP.ddiv x_r0_1 (4611686018427387904 : UInt64)) x_r0_2) (FP.ddiv x_r0_3 (4611686018427387904 : UInt64))))) (fun h => by rw [Bd.returns] at h; cases h)
  refine ⟨_, _, pre0 _ (?_), hrun, hended, _, _, rfl, ?_, ⟨_, rfl⟩, hW, hsame.mono (by decide) (by decide)⟩
  · show Steps p.tables e below (s₁.setTop (mkF m 0 #[.val (.ref r0), .val (.int p1), .val (.int 1)] [])) _
    refine XS.aloadN X0.here hx rfl (hb hby own_d2_0) rfl rfl ?_
    refine XS.iloadN X0.here hx rfl (hb hby own_d2_1) rfl ?_
    refine XS.iconst X0.here hx rfl (hb hby own_d2_2) ?_
    refine XS.iloadN X0.here hx rfl (hb hby own_d2_3) rfl ?_
    refine XS.imul X0.here hx rfl (hb hby own_d2_4) rfl ?_
    show Steps p.tables e below (s₁.setTop (mkF m 5 #[.val (.ref r0), .val (.int p1), .val (.int 1)] [(.int 2), (.int p1), (.ref r0)])) _
    refine XS.iconst X0.here hx rfl (hb hby own_d2_5) ?_
    refine XS.isub X0.here hx rfl (hb hby own_d2_6) rfl ?_
    refine stk1 _ ?_
    show Steps p.tables e below (Tk1.setTop (mkF m 10 #[.val (.ref r0), .val (.int p1), .val (.int 1)] [(.double x_r0_1)])) _
    refine Xk1.ldc2DoubleC hx hown (mvT hZ (own_W hw 13 rfl)) (g := (mkF m 10 #[.val (.ref r0), .val (.int p1), .val (.int 1)] [(.double x_r0_1)])) rfl (hb hby own_d2_10) _ ?_
    refine XS.ddivS Xk1.here hx rfl (hb hby own_d2_13) rfl nn13 rfl ?_
    refine XS.aloadN Xk1.here hx rfl (hb hby own_d2_14) rfl rfl ?_
    refine XS.iloadN Xk1.here hx rfl (hb hby own_d2_15) rfl ?_
    refine XS.iconst Xk1.here hx rfl (hb hby own_d2_16) ?_
    refine XS.iloadN Xk1.here hx rfl (hb hby own_d2_17) rfl ?_
    refine XS.imul Xk1.here hx rfl (hb hby own_d2_18) rfl ?_
    show Steps p.tables e below (Tk1.setTop (mkF m 19 #[.val (.ref r0), .val (.int p1), .val (.int 1)] [(.int 2), (.int p1), (.ref r0), (.double (FP.ddiv x_r0_1 (4611686018427387904 : UInt64)))])) _
    refine stk2 _ ?_
    refine XS.daddS Xk2.here hx rfl (hb hby own_d2_22) rfl nn22 rfl ?_
    refine XS.aloadN Xk2.here hx rfl (hb hby own_d2_23) rfl rfl ?_
    refine XS.iloadN Xk2.here hx rfl (hb hby own_d2_24) rfl ?_
    refine XS.iconst Xk2.here hx rfl (hb hby own_d2_25) ?_
    refine XS.iloadN Xk2.here hx rfl (hb hby own_d2_26) rfl ?_
    refine XS.imul Xk2.here hx rfl (hb hby own_d2_27) rfl ?_
    show Steps p.tables e below (Tk2.setTop (mkF m 28 #[.val (.ref r0), .val (.int p1), .val (.int 1)] [(.int 2), (.int p1), (.ref r0), (.double (FP.dadd (FP.ddiv x_r0_1 (4611686018427387904 : UInt64)) x_r0_2))])) _
    refine XS.iconst Xk2.here hx rfl (hb hby own_d2_28) ?_
    refine XS.iadd Xk2.here hx rfl (hb hby own_d2_29) rfl ?_
    refine stk3 _ ?_
    show Steps p.tables e below (Tk3.setTop (mkF m 33 #[.val (.ref r0), .val (.int p1), .val (.int 1)] [(.double x_r0_3), (.double (FP.dadd (FP.ddiv x_r0_1 (4611686018427387904 : UInt64)) x_r0_2))])) _
    refine Xk3.ldc2DoubleC hx hown (mvT hZ (own_W hw 13 rfl)) (g := (mkF m 33 #[.val (.ref r0), .val (.int p1), .val (.int 1)] [(.double x_r0_3), (.double (FP.dadd (FP.ddiv x_r0_1 (4611686018427387904 : UInt64)) x_r0_2))])) rfl (hb hby own_d2_33) _ ?_
    refine XS.ddivS Xk3.here hx rfl (hb hby own_d2_36) rfl nn36 rfl ?_
    refine XS.daddS Xk3.here hx rfl (hb hby own_d2_37) rfl nn37 rfl ?_
    show Steps p.tables e below (Tk3.setTop (mkF m 38 #[.val (.ref r0), .val (.int p1), .val (.int 1)] [(.double (FP.dadd (FP.dadd (FP.ddiv x_r0_1 (4611686018427387904 : UInt64)) x_r0_2) (FP.ddiv x_r0_3 (4611686018427387904 : UInt64))))])) _
    exact own_retD Xk3 hx Bd.returns (hb hby own_d2_38) hr
  · show own_Qex14 Z r0 p1 k_r0 x_r0_0 x_r0_1 x_r0_2 x_r0_3 x_r0_4 x_r0_5 x_r0_6 x_r0_7 h0 n0 _ Tk3.heap _
    rw [ek3]
    exact ⟨rfl, Nk3, rfl⟩
def own_rex24_0 (x_r0_3 : UInt64) : UInt64 := (FP.dadd (FP.dadd (FP.ddiv x_r0_3 (4611686018427387904 : UInt64)) (0 : UInt64)) (FP.ddiv (0 : UInt64) (4611686018427387904 : UInt64)))
theorem own_efex24 (m : MethodId) (r0 : Addr) (p1 : Int32) : entryFrame m #[(.ref r0), (.int p1), (.int 2)] 3 = mkF m 0 #[.val (.ref r0), .val (.int p1), .val (.int 2)] [] := by first | (simp [entryFrame, mkF, argsToLocals, Value.category]; done) | rfl
def own_Qex24 (Z : State) (r0 : Addr) (p1 : Int32) (k_r0 : ClassId) (x_r0_0 : UInt64) (x_r0_1 : UInt64) (x_r0_2 : UInt64) (x_r0_3 : UInt64) (x_r0_4 : UInt64) (x_r0_5 : UInt64) (x_r0_6 : UInt64) (x_r0_7 : UInt64) (h0 : Heap) (n0 : Nat) (v : Option Value) (h : Heap) (L : List Loc) : Prop := v = some (.double (own_rex24_0 x_r0_3)) ∧ Fr n0 L ∧ h = h0
set_option maxRecDepth 65536 in
set_option maxHeartbeats 40000000 in
theorem own_rmex24 (l : Launch) (Z : State) (a0 : Array Value) (hw : ∀ d ∈ tables_1, d.before a0 Z = true) (ws : List Jvm.Cond) (r0 : Addr) (p1 : Int32) (k_r0 : ClassId) (x_r0_0 : UInt64) (x_r0_1 : UInt64) (x_r0_2 : UInt64) (x_r0_3 : UInt64) (x_r0_4 : UInt64) (x_r0_5 : UInt64) (x_r0_6 : UInt64) (x_r0_7 : UInt64) (h0 : Heap) (n0 : Nat) (Z0 : n0 ≤ h0.size) (V_r0 : Arv Z h0 r0 k_r0 .double (8 : Int32) [(.double x_r0_0), (.double x_r0_1), (.double x_r0_2), (.double x_r0_3), (.double x_r0_4), (.double x_r0_5), (.double x_r0_6), (.double x_r0_7)] (.double 0)) (c7_hc6 : (3 : Int32) < p1) (nn13 : NoNaN64 (FP.ddiv x_r0_3 (4611686018427387904 : UInt64))) (c19_hc6 : ¬ ((4 : Int32) < p1)) (nn22 : NoNaN64 (FP.dadd (FP.ddiv x_r0_3 (4611686018427387904 : UInt64)) (0 : UInt64))) (c30_hc6 : ¬ ((5 : Int32) < p1)) (nn36 : NoNaN64 (FP.ddiv (0 : UInt64) (4611686018427387904 : UInt64))) (nn37 : NoNaN64 (FP.dadd (FP.dadd (FP.ddiv x_r0_3 (4611686018427387904 : UInt64)) (0 : UInt64)) (FP.ddiv (0 : UInt64) (4611686018427387904 : UInt64)))) :
    MetFree l (⟨"com/example/surepath/surepath/LatticesHalvedPinLaw", "expect", "([DII)D"⟩ : MethodName) (head1 (Jvm.Cond.code (⟨"com/example/surepath/surepath/LatticesHalvedPinLaw", "expect", "([DII)D"⟩ : MethodName) method_3_code 3 (some .double) :: ws) ({ frames := 1, cells := 0, slots := 0, locals := 16 } : Room)) (fun a U => a = #[(.ref r0), (.int p1), (.int 2)] ∧ Z.Warmed39 U.vm ∧ U.heap = h0) (fun _ _ _ _ _ => True) (fun _ U o U' => ∃ v L, o = .returned v ∧ own_Qex24 Z r0 p1 k_r0 x_r0_0 x_r0_1 x_r0_2 x_r0_3 x_r0_4 x_r0_5 x_r0_6 x_r0_7 h0 n0 v U'.heap L ∧ FrameEnd U o U' L ({ frames := 1, cells := 0, slots := 0, locals := 16 } : Room).cells ({ frames := 1, cells := 0, slots := 0, locals := 16 } : Room).slots) := by
  refine MetFree.of_bodySF (plainFor_of_name own_pn0) hisR ?_
  intro p e s m args below meth c s₁ Bd hml0 hP hK
  obtain ⟨rfl, hZ, hh⟩ := hP
  have hx := Bd.exec
  have hby := Bd.bytes
  have hml : c.maxLocals = 3 := hml0
  have hown : s.vm.findClass "com/example/surepath/surepath/LatticesHalvedPinLaw" = some m.cls := findClass_of_methodNamed Bd.named
  have hnm := (name_of_methodNamed Bd.named Bd.method).1
  have X0 : Stand p l e ({ frames := 1, cells := 0, slots := 0, locals := 16 } : Room) s m #[(.ref r0), (.int p1), (.int 2)] below meth c s₁ [] 0 0 := Stand.of_body Bd
  have e0 : s₁.heap = h0 := by rw [← hh, Bd.state]; rfl
  have N0 := Fr.nil n0
  have Zr : h0.size ≤ h0.size := Nat.le_refl _
  have pre0 : ∀ t, Steps p.tables e below (s₁.setTop (mkF m 0 #[.val (.ref r0), .val (.int p1), .val (.int 2)] [])) t → Steps p.tables e below (s₁.setTop (entryFrame m #[(.ref r0), (.int p1), (.int 2)] 3)) t := fun t k => castTop (own_efex24 m r0 p1) k
  obtain ⟨_, _, ⟨Tk1, Lk1, kk1, nk1⟩, -, Xk1, ⟨Lck1, hQk1, lk1, yk1, zk1⟩, stk1⟩ := Jvm.LawKit.callS X0 hx (y := (⟨"com/example/surepath/surepath/LatticesHalvedPinLaw", "at", "([DII)D"⟩ : MethodName)) hown (mvT hZ (own_W hw 10 rfl)) (mvT hZ (own_W hw 11 rfl)) (mvT hZ (own_W hw 8 rfl)) (mvT hZ (own_W hw 12 rfl)) (by decide) (backOf (W := 0) (own_rmatB3 l Z a0 hw [] r0 p1 k_r0 x_r0_0 x_r0_1 x_r0_2 x_r0_3 x_r0_4 x_r0_5 x_r0_6 x_r0_7 h0 n0 Z0 V_r0 c7_hc6) hZ (own_W hw 12 rfl) (own_W hw 8 rfl) (by decide) (by decide)) (g := (mkF m 7 #[.val (.ref r0), .val (.int p1), .val (.int 2)] [(.int 3), (.int p1), (.ref r0)])) rfl (by rw [hml]; rfl) (argsL := [(.ref r0), (.int p1), (.int 3)]) (rest := []) (lenOf own_pd0 rfl) rfl (by show 2 * 0 + _ ≤ _; exact Nat.le_of_eq rfl) (hb hby own_d2_7) (fun _ _ => ⟨rfl, e0, (by decide : 0 + 0 ≤ _), (by decide : 0 + 0 ≤ _)⟩)
  dsimp only [Pt.U, Pt.locs, Pt.cells, Pt.slots] at Xk1 lk1 yk1 zk1 stk1 hQk1
  replace lk1 := lk1.symm; replace yk1 := yk1.symm; replace zk1 := zk1.symm; subst lk1 yk1 zk1
  obtain ⟨rfl, Nk1q, ek1⟩ := hQk1
  have Nk1 := Fr.app N0 Nk1q
  obtain ⟨_, _, ⟨Tk2, Lk2, kk2, nk2⟩, -, Xk2, ⟨Lck2, hQk2, lk2, yk2, zk2⟩, stk2⟩ := Jvm.LawKit.callS Xk1 hx (y := (⟨"com/example/surepath/surepath/LatticesHalvedPinLaw", "at", "([DII)D"⟩ : MethodName)) hown (mvT hZ (own_W hw 10 rfl)) (mvT hZ (own_W hw 11 rfl)) (mvT hZ (own_W hw 8 rfl)) (mvT hZ (own_W hw 12 rfl)) (by decide) (backOf (W := 2) (own_rmatC l Z a0 hw [] r0 p1 (4 : Int32) h0 n0 Z0 (by decide) c19_hc6) hZ (own_W hw 12 rfl) (own_W hw 8 rfl) (by decide) (by decide)) (g := (mkF m 19 #[.val (.ref r0), .val (.int p1), .val (.int 2)] [(.int 4), (.int p1), (.ref r0), (.double (FP.ddiv x_r0_3 (4611686018427387904 : UInt64)))])) rfl (by rw [hml]; rfl) (argsL := [(.ref r0), (.int p1), (.int 4)]) (rest := [(.double (FP.ddiv x_r0_3 (4611686018427387904 : UInt64)))]) (lenOf own_pd0 rfl) rfl (by show 2 * 0 + _ ≤ _; exact Nat.le_of_eq rfl) (hb hby own_d2_19) (fun _ _ => ⟨rfl, ek1, (by decide : 0 + 0 ≤ _), (by decide : 0 + 0 ≤ _)⟩)
  dsimp only [Pt.U, Pt.locs, Pt.cells, Pt.slots] at Xk2 lk2 yk2 zk2 stk2 hQk2
  replace lk2 := lk2.symm; replace yk2 := yk2.symm; replace zk2 := zk2.symm; subst lk2 yk2 zk2
  obtain ⟨rfl, Nk2q, ek2⟩ := hQk2
  have Nk2 := Fr.app Nk1 Nk2q
  obtain ⟨_, _, ⟨Tk3, Lk3, kk3, nk3⟩, -, Xk3, ⟨Lck3, hQk3, lk3, yk3, zk3⟩, stk3⟩ := Jvm.LawKit.callS Xk2 hx (y := (⟨"com/example/surepath/surepath/LatticesHalvedPinLaw", "at", "([DII)D"⟩ : MethodName)) hown (mvT hZ (own_W hw 10 rfl)) (mvT hZ (own_W hw 11 rfl)) (mvT hZ (own_W hw 8 rfl)) (mvT hZ (own_W hw 12 rfl)) (by decide) (backOf (W := 2) (own_rmatC l Z a0 hw [] r0 p1 (5 : Int32) h0 n0 Z0 (by decide) c30_hc6) hZ (own_W hw 12 rfl) (own_W hw 8 rfl) (by decide) (by decide)) (g := (mkF m 30 #[.val (.ref r0), .val (.int p1), .val (.int 2)] [(.int 5), (.int p1), (.ref r0), (.double (FP.dadd (FP.ddiv x_r0_3 (4611686018427387904 : UInt64)) (0 : UInt64)))])) rfl (by rw [hml]; rfl) (argsL := [(.ref r0), (.int p1), (.int 5)]) (rest := [(.double (FP.dadd (FP.ddiv x_r0_3 (4611686018427387904 : UInt64)) (0 : UInt64)))]) (lenOf own_pd0 rfl) rfl (by show 2 * 0 + _ ≤ _; exact Nat.le_of_eq rfl) (hb hby own_d2_30) (fun _ _ => ⟨rfl, ek2, (by decide : 0 + 0 ≤ _), (by decide : 0 + 0 ≤ _)⟩)
  dsimp only [Pt.U, Pt.locs, Pt.cells, Pt.slots] at Xk3 lk3 yk3 zk3 stk3 hQk3
  replace lk3 := lk3.symm; replace yk3 := yk3.symm; replace zk3 := zk3.symm; subst lk3 yk3 zk3
  obtain ⟨rfl, Nk3q, ek3⟩ := hQk3
  have Nk3 := Fr.app Nk2 Nk3q
  obtain ⟨fs, hr, hrun, hended, hW, hsame⟩ := Xk3.leave (v := some (.double (FP.dadd (FP.dadd (FP.ddiv x_r0_3 (4611686018427387904 : UInt64)) (0 : UInt64)) (FP.ddiv (0 : UInt64) (4611686018427387904 : UInt64))))) (fun h => by rw [Bd.returns] at h; cases h)
  refine ⟨_, _, pre0 _ (?_), hrun, hended, _, _, rfl, ?_, ⟨_, rfl⟩, hW, hsame.mono (by decide) (by decide)⟩
  · show Steps p.tables e below (s₁.setTop (mkF m 0 #[.val (.ref r0), .val (.int p1), .val (.int 2)] [])) _
    refine XS.aloadN X0.here hx rfl (hb hby own_d2_0) rfl rfl ?_
    refine XS.iloadN X0.here hx rfl (hb hby own_d2_1) rfl ?_
    refine XS.iconst X0.here hx rfl (hb hby own_d2_2) ?_
    refine XS.iloadN X0.here hx rfl (hb hby own_d2_3) rfl ?_
    refine XS.imul X0.here hx rfl (hb hby own_d2_4) rfl ?_
    show Steps p.tables e below (s₁.setTop (mkF m 5 #[.val (.ref r0), .val (.int p1), .val (.int 2)] [(.int 4), (.int p1), (.ref r0)])) _
    refine XS.iconst X0.here hx rfl (hb hby own_d2_5) ?_
    refine XS.isub X0.here hx rfl (hb hby own_d2_6) rfl ?_
    refine stk1 _ ?_
    show Steps p.tables e below (Tk1.setTop (mkF m 10 #[.val (.ref r0), .val (.int p1), .val (.int 2)] [(.double x_r0_3)])) _
    refine Xk1.ldc2DoubleC hx hown (mvT hZ (own_W hw 13 rfl)) (g := (mkF m 10 #[.val (.ref r0), .val (.int p1), .val (.int 2)] [(.double x_r0_3)])) rfl (hb hby own_d2_10) _ ?_
    refine XS.ddivS Xk1.here hx rfl (hb hby own_d2_13) rfl nn13 rfl ?_
    refine XS.aloadN Xk1.here hx rfl (hb hby own_d2_14) rfl rfl ?_
    refine XS.iloadN Xk1.here hx rfl (hb hby own_d2_15) rfl ?_
    refine XS.iconst Xk1.here hx rfl (hb hby own_d2_16) ?_
    refine XS.iloadN Xk1.here hx rfl (hb hby own_d2_17) rfl ?_
    refine XS.imul Xk1.here hx rfl (hb hby own_d2_18) rfl ?_
    show Steps p.tables e below (Tk1.setTop (mkF m 19 #[.val (.ref r0), .val (.int p1), .val (.int 2)] [(.int 4), (.int p1), (.ref r0), (.double (FP.ddiv x_r0_3 (4611686018427387904 : UInt64)))])) _
    refine stk2 _ ?_
    refine XS.daddS Xk2.here hx rfl (hb hby own_d2_22) rfl nn22 rfl ?_
    refine XS.aloadN Xk2.here hx rfl (hb hby own_d2_23) rfl rfl ?_
    refine XS.iloadN Xk2.here hx rfl (hb hby own_d2_24) rfl ?_
    refine XS.iconst Xk2.here hx rfl (hb hby own_d2_25) ?_
    refine XS.iloadN Xk2.here hx rfl (hb hby own_d2_26) rfl ?_
    refine XS.imul Xk2.here hx rfl (hb hby own_d2_27) rfl ?_
    show Steps p.tables e below (Tk2.setTop (mkF m 28 #[.val (.ref r0), .val (.int p1), .val (.int 2)] [(.int 4), (.int p1), (.ref r0), (.double (FP.dadd (FP.ddiv x_r0_3 (4611686018427387904 : UInt64)) (0 : UInt64)))])) _
    refine XS.iconst Xk2.here hx rfl (hb hby own_d2_28) ?_
    refine XS.iadd Xk2.here hx rfl (hb hby own_d2_29) rfl ?_
    refine stk3 _ ?_
    show Steps p.tables e below (Tk3.setTop (mkF m 33 #[.val (.ref r0), .val (.int p1), .val (.int 2)] [(.double 0), (.double (FP.dadd (FP.ddiv x_r0_3 (4611686018427387904 : UInt64)) (0 : UInt64)))])) _
    refine Xk3.ldc2DoubleC hx hown (mvT hZ (own_W hw 13 rfl)) (g := (mkF m 33 #[.val (.ref r0), .val (.int p1), .val (.int 2)] [(.double 0), (.double (FP.dadd (FP.ddiv x_r0_3 (4611686018427387904 : UInt64)) (0 : UInt64)))])) rfl (hb hby own_d2_33) _ ?_
    refine XS.ddivS Xk3.here hx rfl (hb hby own_d2_36) rfl nn36 rfl ?_
    refine XS.daddS Xk3.here hx rfl (hb hby own_d2_37) rfl nn37 rfl ?_
    show Steps p.tables e below (Tk3.setTop (mkF m 38 #[.val (.ref r0), .val (.int p1), .val (.int 2)] [(.double (FP.dadd (FP.dadd (FP.ddiv x_r0_3 (4611686018427387904 : UInt64)) (0 : UInt64)) (FP.ddiv (0 : UInt64) (4611686018427387904 : UInt64))))])) _
    exact own_retD Xk3 hx Bd.returns (hb hby own_d2_38) hr
  · show own_Qex24 Z r0 p1 k_r0 x_r0_0 x_r0_1 x_r0_2 x_r0_3 x_r0_4 x_r0_5 x_r0_6 x_r0_7 h0 n0 _ Tk3.heap _
    rw [ek3]
    exact ⟨rfl, Nk3, rfl⟩
def own_rex25_0 (x_r0_3 : UInt64) (x_r0_4 : UInt64) : UInt64 := (FP.dadd (FP.dadd (FP.ddiv x_r0_3 (4611686018427387904 : UInt64)) x_r0_4) (FP.ddiv (0 : UInt64) (4611686018427387904 : UInt64)))
theorem own_efex25 (m : MethodId) (r0 : Addr) (p1 : Int32) : entryFrame m #[(.ref r0), (.int p1), (.int 2)] 3 = mkF m 0 #[.val (.ref r0), .val (.int p1), .val (.int 2)] [] := by first | (simp [entryFrame, mkF, argsToLocals, Value.category]; done) | rfl
def own_Qex25 (Z : State) (r0 : Addr) (p1 : Int32) (k_r0 : ClassId) (x_r0_0 : UInt64) (x_r0_1 : UInt64) (x_r0_2 : UInt64) (x_r0_3 : UInt64) (x_r0_4 : UInt64) (x_r0_5 : UInt64) (x_r0_6 : UInt64) (x_r0_7 : UInt64) (h0 : Heap) (n0 : Nat) (v : Option Value) (h : Heap) (L : List Loc) : Prop := v = some (.double (own_rex25_0 x_r0_3 x_r0_4)) ∧ Fr n0 L ∧ h = h0
set_option maxRecDepth 65536 in
set_option maxHeartbeats 40000000 in
theorem own_rmex25 (l : Launch) (Z : State) (a0 : Array Value) (hw : ∀ d ∈ tables_1, d.before a0 Z = true) (ws : List Jvm.Cond) (r0 : Addr) (p1 : Int32) (k_r0 : ClassId) (x_r0_0 : UInt64) (x_r0_1 : UInt64) (x_r0_2 : UInt64) (x_r0_3 : UInt64) (x_r0_4 : UInt64) (x_r0_5 : UInt64) (x_r0_6 : UInt64) (x_r0_7 : UInt64) (h0 : Heap) (n0 : Nat) (Z0 : n0 ≤ h0.size) (V_r0 : Arv Z h0 r0 k_r0 .double (8 : Int32) [(.double x_r0_0), (.double x_r0_1), (.double x_r0_2), (.double x_r0_3), (.double x_r0_4), (.double x_r0_5), (.double x_r0_6), (.double x_r0_7)] (.double 0)) (c7_hc6 : (3 : Int32) < p1) (nn13 : NoNaN64 (FP.ddiv x_r0_3 (4611686018427387904 : UInt64))) (c19_hc6 : (4 : Int32) < p1) (nn22 : NoNaN64 (FP.dadd (FP.ddiv x_r0_3 (4611686018427387904 : UInt64)) x_r0_4)) (c30_hc6 : ¬ ((5 : Int32) < p1)) (nn36 : NoNaN64 (FP.ddiv (0 : UInt64) (4611686018427387904 : UInt64))) (nn37 : NoNaN64 (FP.dadd (FP.dadd (FP.ddiv x_r0_3 (4611686018427387904 : UInt64)) x_r0_4) (FP.ddiv (0 : UInt64) (4611686018427387904 : UInt64)))) :
    MetFree l (⟨"com/example/surepath/surepath/LatticesHalvedPinLaw", "expect", "([DII)D"⟩ : MethodName) (head1 (Jvm.Cond.code (⟨"com/example/surepath/surepath/LatticesHalvedPinLaw", "expect", "([DII)D"⟩ : MethodName) method_3_code 3 (some .double) :: ws) ({ frames := 1, cells := 0, slots := 0, locals := 16 } : Room)) (fun a U => a = #[(.ref r0), (.int p1), (.int 2)] ∧ Z.Warmed39 U.vm ∧ U.heap = h0) (fun _ _ _ _ _ => True) (fun _ U o U' => ∃ v L, o = .returned v ∧ own_Qex25 Z r0 p1 k_r0 x_r0_0 x_r0_1 x_r0_2 x_r0_3 x_r0_4 x_r0_5 x_r0_6 x_r0_7 h0 n0 v U'.heap L ∧ FrameEnd U o U' L ({ frames := 1, cells := 0, slots := 0, locals := 16 } : Room).cells ({ frames := 1, cells := 0, slots := 0, locals := 16 } : Room).slots) := by
  refine MetFree.of_bodySF (plainFor_of_name own_pn0) hisR ?_
  intro p e s m args below meth c s₁ Bd hml0 hP hK
  obtain ⟨rfl, hZ, hh⟩ := hP
  have hx := Bd.exec
  have hby := Bd.bytes
  have hml : c.maxLocals = 3 := hml0
  have hown : s.vm.findClass "com/example/surepath/surepath/LatticesHalvedPinLaw" = some m.cls := findClass_of_methodNamed Bd.named
  have hnm := (name_of_methodNamed Bd.named Bd.method).1
  have X0 : Stand p l e ({ frames := 1, cells := 0, slots := 0, locals := 16 } : Room) s m #[(.ref r0), (.int p1), (.int 2)] below meth c s₁ [] 0 0 := Stand.of_body Bd
  have e0 : s₁.heap = h0 := by rw [← hh, Bd.state]; rfl
  have N0 := Fr.nil n0
  have Zr : h0.size ≤ h0.size := Nat.le_refl _
  have pre0 : ∀ t, Steps p.tables e below (s₁.setTop (mkF m 0 #[.val (.ref r0), .val (.int p1), .val (.int 2)] [])) t → Steps p.tables e below (s₁.setTop (entryFrame m #[(.ref r0), (.int p1), (.int 2)] 3)) t := fun t k => castTop (own_efex25 m r0 p1) k
  obtain ⟨_, _, ⟨Tk1, Lk1, kk1, nk1⟩, -, Xk1, ⟨Lck1, hQk1, lk1, yk1, zk1⟩, stk1⟩ := Jvm.LawKit.callS X0 hx (y := (⟨"com/example/surepath/surepath/LatticesHalvedPinLaw", "at", "([DII)D"⟩ : MethodName)) hown (mvT hZ (own_W hw 10 rfl)) (mvT hZ (own_W hw 11 rfl)) (mvT hZ (own_W hw 8 rfl)) (mvT hZ (own_W hw 12 rfl)) (by decide) (backOf (W := 0) (own_rmatB3 l Z a0 hw [] r0 p1 k_r0 x_r0_0 x_r0_1 x_r0_2 x_r0_3 x_r0_4 x_r0_5 x_r0_6 x_r0_7 h0 n0 Z0 V_r0 c7_hc6) hZ (own_W hw 12 rfl) (own_W hw 8 rfl) (by decide) (by decide)) (g := (mkF m 7 #[.val (.ref r0), .val (.int p1), .val (.int 2)] [(.int 3), (.int p1), (.ref r0)])) rfl (by rw [hml]; rfl) (argsL := [(.ref r0), (.int p1), (.int 3)]) (rest := []) (lenOf own_pd0 rfl) rfl (by show 2 * 0 + _ ≤ _; exact Nat.le_of_eq rfl) (hb hby own_d2_7) (fun _ _ => ⟨rfl, e0, (by decide : 0 + 0 ≤ _), (by decide : 0 + 0 ≤ _)⟩)
  dsimp only [Pt.U, Pt.locs, Pt.cells, Pt.slots] at Xk1 lk1 yk1 zk1 stk1 hQk1
  replace lk1 := lk1.symm; replace yk1 := yk1.symm; replace zk1 := zk1.symm; subst lk1 yk1 zk1
  obtain ⟨rfl, Nk1q, ek1⟩ := hQk1
  have Nk1 := Fr.app N0 Nk1q
  obtain ⟨_, _, ⟨Tk2, Lk2, kk2, nk2⟩, -, Xk2, ⟨Lck2, hQk2, lk2, yk2, zk2⟩, stk2⟩ := Jvm.LawKit.callS Xk1 hx (y := (⟨"com/example/surepath/surepath/LatticesHalvedPinLaw", "at", "([DII)D"⟩ : MethodName)) hown (mvT hZ (own_W hw 10 rfl)) (mvT hZ (own_W hw 11 rfl)) (mvT hZ (own_W hw 8 rfl)) (mvT hZ (own_W hw 12 rfl)) (by decide) (backOf (W := 2) (own_rmatB4 l Z a0 hw [] r0 p1 k_r0 x_r0_0 x_r0_1 x_r0_2 x_r0_3 x_r0_4 x_r0_5 x_r0_6 x_r0_7 h0 n0 Z0 V_r0 c19_hc6) hZ (own_W hw 12 rfl) (own_W hw 8 rfl) (by decide) (by decide)) (g := (mkF m 19 #[.val (.ref r0), .val (.int p1), .val (.int 2)] [(.int 4), (.int p1), (.ref r0), (.double (FP.ddiv x_r0_3 (4611686018427387904 : UInt64)))])) rfl (by rw [hml]; rfl) (argsL := [(.ref r0), (.int p1), (.int 4)]) (rest := [(.double (FP.ddiv x_r0_3 (4611686018427387904 : UInt64)))]) (lenOf own_pd0 rfl) rfl (by show 2 * 0 + _ ≤ _; exact Nat.le_of_eq rfl) (hb hby own_d2_19) (fun _ _ => ⟨rfl, ek1, (by decide : 0 + 0 ≤ _), (by decide : 0 + 0 ≤ _)⟩)
  dsimp only [Pt.U, Pt.locs, Pt.cells, Pt.slots] at Xk2 lk2 yk2 zk2 stk2 hQk2
  replace lk2 := lk2.symm; replace yk2 := yk2.symm; replace zk2 := zk2.symm; subst lk2 yk2 zk2
  obtain ⟨rfl, Nk2q, ek2⟩ := hQk2
  have Nk2 := Fr.app Nk1 Nk2q
  obtain ⟨_, _, ⟨Tk3, Lk3, kk3, nk3⟩, -, Xk3, ⟨Lck3, hQk3, lk3, yk3, zk3⟩, stk3⟩ := Jvm.LawKit.callS Xk2 hx (y := (⟨"com/example/surepath/surepath/LatticesHalvedPinLaw", "at", "([DII)D"⟩ : MethodName)) hown (mvT hZ (own_W hw 10 rfl)) (mvT hZ (own_W hw 11 rfl)) (mvT hZ (own_W hw 8 rfl)) (mvT hZ (own_W hw 12 rfl)) (by decide) (backOf (W := 2) (own_rmatC l Z a0 hw [] r0 p1 (5 : Int32) h0 n0 Z0 (by decide) c30_hc6) hZ (own_W hw 12 rfl) (own_W hw 8 rfl) (by decide) (by decide)) (g := (mkF m 30 #[.val (.ref r0), .val (.int p1), .val (.int 2)] [(.int 5), (.int p1), (.ref r0), (.double (FP.dadd (FP.ddiv x_r0_3 (4611686018427387904 : UInt64)) x_r0_4))])) rfl (by rw [hml]; rfl) (argsL := [(.ref r0), (.int p1), (.int 5)]) (rest := [(.double (FP.dadd (FP.ddiv x_r0_3 (4611686018427387904 : UInt64)) x_r0_4))]) (lenOf own_pd0 rfl) rfl (by show 2 * 0 + _ ≤ _; exact Nat.le_of_eq rfl) (hb hby own_d2_30) (fun _ _ => ⟨rfl, ek2, (by decide : 0 + 0 ≤ _), (by decide : 0 + 0 ≤ _)⟩)
  dsimp only [Pt.U, Pt.locs, Pt.cells, Pt.slots] at Xk3 lk3 yk3 zk3 stk3 hQk3
  replace lk3 := lk3.symm; replace yk3 := yk3.symm; replace zk3 := zk3.symm; subst lk3 yk3 zk3
  obtain ⟨rfl, Nk3q, ek3⟩ := hQk3
  have Nk3 := Fr.app Nk2 Nk3q
  obtain ⟨fs, hr, hrun, hended, hW, hsame⟩ := Xk3.leave (v := some (.double (FP.dadd (FP.dadd (FP.ddiv x_r0_3 (4611686018427387904 : UInt64)) x_r0_4) (FP.ddiv (0 : UInt64) (4611686018427387904 : UInt64))))) (fun h => by rw [Bd.returns] at h; cases h)
  refine ⟨_, _, pre0 _ (?_), hrun, hended, _, _, rfl, ?_, ⟨_, rfl⟩, hW, hsame.mono (by decide) (by decide)⟩
  · show Steps p.tables e below (s₁.setTop (mkF m 0 #[.val (.ref r0), .val (.int p1), .val (.int 2)] [])) _
    refine XS.aloadN X0.here hx rfl (hb hby own_d2_0) rfl rfl ?_
    refine XS.iloadN X0.here hx rfl (hb hby own_d2_1) rfl ?_
    refine XS.iconst X0.here hx rfl (hb hby own_d2_2) ?_
    refine XS.iloadN X0.here hx rfl (hb hby own_d2_3) rfl ?_
    refine XS.imul X0.here hx rfl (hb hby own_d2_4) rfl ?_
    show Steps p.tables e below (s₁.setTop (mkF m 5 #[.val (.ref r0), .val (.int p1), .val (.int 2)] [(.int 4), (.int p1), (.ref r0)])) _
    refine XS.iconst X0.here hx rfl (hb hby own_d2_5) ?_
    refine XS.isub X0.here hx rfl (hb hby own_d2_6) rfl ?_
    refine stk1 _ ?_
    show Steps p.tables e below (Tk1.setTop (mkF m 10 #[.val (.ref r0), .val (.int p1), .val (.int 2)] [(.double x_r0_3)])) _
    refine Xk1.ldc2DoubleC hx hown (mvT hZ (own_W hw 13 rfl)) (g := (mkF m 10 #[.val (.ref r0), .val (.int p1), .val (.int 2)] [(.double x_r0_3)])) rfl (hb hby own_d2_10) _ ?_
    refine XS.ddivS Xk1.here hx rfl (hb hby own_d2_13) rfl nn13 rfl ?_
    refine XS.aloadN Xk1.here hx rfl (hb hby own_d2_14) rfl rfl ?_
    refine XS.iloadN Xk1.here hx rfl (hb hby own_d2_15) rfl ?_
    refine XS.iconst Xk1.here hx rfl (hb hby own_d2_16) ?_
    refine XS.iloadN Xk1.here hx rfl (hb hby own_d2_17) rfl ?_
    refine XS.imul Xk1.here hx rfl (hb hby own_d2_18) rfl ?_
    show Steps p.tables e below (Tk1.setTop (mkF m 19 #[.val (.ref r0), .val (.int p1), .val (.int 2)] [(.int 4), (.int p1), (.ref r0), (.double (FP.ddiv x_r0_3 (4611686018427387904 : UInt64)))])) _
    refine stk2 _ ?_
    refine XS.daddS Xk2.here hx rfl (hb hby own_d2_22) rfl nn22 rfl ?_
    refine XS.aloadN Xk2.here hx rfl (hb hby own_d2_23) rfl rfl ?_
    refine XS.iloadN Xk2.here hx rfl (hb hby own_d2_24) rfl ?_
    refine XS.iconst Xk2.here hx rfl (hb hby own_d2_25) ?_
    refine XS.iloadN Xk2.here hx rfl (hb hby own_d2_26) rfl ?_
    refine XS.imul Xk2.here hx rfl (hb hby own_d2_27) rfl ?_
    show Steps p.tables e below (Tk2.setTop (mkF m 28 #[.val (.ref r0), .val (.int p1), .val (.int 2)] [(.int 4), (.int p1), (.ref r0), (.double (FP.dadd (FP.ddiv x_r0_3 (4611686018427387904 : UInt64)) x_r0_4))])) _
    refine XS.iconst Xk2.here hx rfl (hb hby own_d2_28) ?_
    refine XS.iadd Xk2.here hx rfl (hb hby own_d2_29) rfl ?_
    refine stk3 _ ?_
    show Steps p.tables e below (Tk3.setTop (mkF m 33 #[.val (.ref r0), .val (.int p1), .val (.int 2)] [(.double 0), (.double (FP.dadd (FP.ddiv x_r0_3 (4611686018427387904 : UInt64)) x_r0_4))])) _
    refine Xk3.ldc2DoubleC hx hown (mvT hZ (own_W hw 13 rfl)) (g := (mkF m 33 #[.val (.ref r0), .val (.int p1), .val (.int 2)] [(.double 0), (.double (FP.dadd (FP.ddiv x_r0_3 (4611686018427387904 : UInt64)) x_r0_4))])) rfl (hb hby own_d2_33) _ ?_
    refine XS.ddivS Xk3.here hx rfl (hb hby own_d2_36) rfl nn36 rfl ?_
    refine XS.daddS Xk3.here hx rfl (hb hby own_d2_37) rfl nn37 rfl ?_
    show Steps p.tables e below (Tk3.setTop (mkF m 38 #[.val (.ref r0), .val (.int p1), .val (.int 2)] [(.double (FP.dadd (FP.dadd (FP.ddiv x_r0_3 (4611686018427387904 : UInt64)) x_r0_4) (FP.ddiv (0 : UInt64) (4611686018427387904 : UInt64))))])) _
    exact own_retD Xk3 hx Bd.returns (hb hby own_d2_38) hr
  · show own_Qex25 Z r0 p1 k_r0 x_r0_0 x_r0_1 x_r0_2 x_r0_3 x_r0_4 x_r0_5 x_r0_6 x_r0_7 h0 n0 _ Tk3.heap _
    rw [ek3]
    exact ⟨rfl, Nk3, rfl⟩
def own_rex26_0 (x_r0_3 : UInt64) (x_r0_4 : UInt64) (x_r0_5 : UInt64) : UInt64 := (FP.dadd (FP.dadd (FP.ddiv x_r0_3 (4611686018427387904 : UInt64)) x_r0_4) (FP.ddiv x_r0_5 (4611686018427387904 : UInt64)))
theorem own_efex26 (m : MethodId) (r0 : Addr) (p1 : Int32) : entryFrame m #[(.ref r0), (.int p1), (.int 2)] 3 = mkF m 0 #[.val (.ref r0), .val (.int p1), .val (.int 2)] [] := by first | (simp [entryFrame, mkF, argsToLocals, Value.category]; done) | rfl
def own_Qex26 (Z : State) (r0 : Addr) (p1 : Int32) (k_r0 : ClassId) (x_r0_0 : UInt64) (x_r0_1 : UInt64) (x_r0_2 : UInt64) (x_r0_3 : UInt64) (x_r0_4 : UInt64) (x_r0_5 : UInt64) (x_r0_6 : UInt64) (x_r0_7 : UInt64) (h0 : Heap) (n0 : Nat) (v : Option Value) (h : Heap) (L : List Loc) : Prop := v = some (.double (own_rex26_0 x_r0_3 x_r0_4 x_r0_5)) ∧ Fr n0 L ∧ h = h0
set_option maxRecDepth 65536 in
set_option maxHeartbeats 40000000 in
theorem own_rmex26 (l : Launch) (Z : State) (a0 : Array Value) (hw : ∀ d ∈ tables_1, d.before a0 Z = true) (ws : List Jvm.Cond) (r0 : Addr) (p1 : Int32) (k_r0 : ClassId) (x_r0_0 : UInt64) (x_r0_1 : UInt64) (x_r0_2 : UInt64) (x_r0_3 : UInt64) (x_r0_4 : UInt64) (x_r0_5 : UInt64) (x_r0_6 : UInt64) (x_r0_7 : UInt64) (h0 : Heap) (n0 : Nat) (Z0 : n0 ≤ h0.size) (V_r0 : Arv Z h0 r0 k_r0 .double (8 : Int32) [(.double x_r0_0), (.double x_r0_1), (.double x_r0_2), (.double x_r0_3), (.double x_r0_4), (.double x_r0_5), (.double x_r0_6), (.double x_r0_7)] (.double 0)) (c7_hc6 : (3 : Int32) < p1) (nn13 : NoNaN64 (FP.ddiv x_r0_3 (4611686018427387904 : UInt64))) (c19_hc6 : (4 : Int32) < p1) (nn22 : NoNaN64 (FP.dadd (FP.ddiv x_r0_3 (4611686018427387904 : UInt64)) x_r0_4)) (c30_hc6 : (5 : Int32) < p1) (nn36 : NoNaN64 (FP.ddiv x_r0_5 (4611686018427387904 : UInt64))) (nn37 : NoNaN64 (FP.dadd (FP.dadd (FP.ddiv x_r0_3 (4611686018427387904 : UInt64)) x_r0_4) (FP.ddiv x_r0_5 (4611686018427387904 : UInt64)))) :
    MetFree l (⟨"com/example/surepath/surepath/LatticesHalvedPinLaw", "expect", "([DII)D"⟩ : MethodName) (head1 (Jvm.Cond.code (⟨"com/example/surepath/surepath/LatticesHalvedPinLaw", "expect", "([DII)D"⟩ : MethodName) method_3_code 3 (some .double) :: ws) ({ frames := 1, cells := 0, slots := 0, locals := 16 } : Room)) (fun a U => a = #[(.ref r0), (.int p1), (.int 2)] ∧ Z.Warmed39 U.vm ∧ U.heap = h0) (fun _ _ _ _ _ => True) (fun _ U o U' => ∃ v L, o = .returned v ∧ own_Qex26 Z r0 p1 k_r0 x_r0_0 x_r0_1 x_r0_2 x_r0_3 x_r0_4 x_r0_5 x_r0_6 x_r0_7 h0 n0 v U'.heap L ∧ FrameEnd U o U' L ({ frames := 1, cells := 0, slots := 0, locals := 16 } : Room).cells ({ frames := 1, cells := 0, slots := 0, locals := 16 } : Room).slots) := by
  refine MetFree.of_bodySF (plainFor_of_name own_pn0) hisR ?_
  intro p e s m args below meth c s₁ Bd hml0 hP hK
  obtain ⟨rfl, hZ, hh⟩ := hP
  have hx := Bd.exec
  have hby := Bd.bytes
  have hml : c.maxLocals = 3 := hml0
  have hown : s.vm.findClass "com/example/surepath/surepath/LatticesHalvedPinLaw" = some m.cls := findClass_of_methodNamed Bd.named
  have hnm := (name_of_methodNamed Bd.named Bd.method).1
  have X0 : Stand p l e ({ frames := 1, cells := 0, slots := 0, locals := 16 } : Room) s m #[(.ref r0), (.int p1), (.int 2)] below meth c s₁ [] 0 0 := Stand.of_body Bd
  have e0 : s₁.heap = h0 := by rw [← hh, Bd.state]; rfl
  have N0 := Fr.nil n0
  have Zr : h0.size ≤ h0.size := Nat.le_refl _
  have pre0 : ∀ t, Steps p.tables e below (s₁.setTop (mkF m 0 #[.val (.ref r0), .val (.int p1), .val (.int 2)] [])) t → Steps p.tables e below (s₁.setTop (entryFrame m #[(.ref r0), (.int p1), (.int 2)] 3)) t := fun t k => castTop (own_efex26 m r0 p1) k
  obtain ⟨_, _, ⟨Tk1, Lk1, kk1, nk1⟩, -, Xk1, ⟨Lck1, hQk1, lk1, yk1, zk1⟩, stk1⟩ := Jvm.LawKit.callS X0 hx (y := (⟨"com/example/surepath/surepath/LatticesHalvedPinLaw", "at", "([DII)D"⟩ : MethodName)) hown (mvT hZ (own_W hw 10 rfl)) (mvT hZ (own_W hw 11 rfl)) (mvT hZ (own_W hw 8 rfl)) (mvT hZ (own_W hw 12 rfl)) (by decide) (backOf (W := 0) (own_rmatB3 l Z a0 hw [] r0 p1 k_r0 x_r0_0 x_r0_1 x_r0_2 x_r0_3 x_r0_4 x_r0_5 x_r0_6 x_r0_7 h0 n0 Z0 V_r0 c7_hc6) hZ (own_W hw 12 rfl) (own_W hw 8 rfl) (by decide) (by decide)) (g := (mkF m 7 #[.val (.ref r0), .val (.int p1), .val (.int 2)] [(.int 3), (.int p1), (.ref r0)])) rfl (by rw [hml]; rfl) (argsL := [(.ref r0), (.int p1), (.int 3)]) (rest := []) (lenOf own_pd0 rfl) rfl (by show 2 * 0 + _ ≤ _; exact Nat.le_of_eq rfl) (hb hby own_d2_7) (fun _ _ => ⟨rfl, e0, (by decide : 0 + 0 ≤ _), (by decide : 0 + 0 ≤ _)⟩)
  dsimp only [Pt.U, Pt.locs, Pt.cells, Pt.slots] at Xk1 lk1 yk1 zk1 stk1 hQk1
  replace lk1 := lk1.symm; replace yk1 := yk1.symm; replace zk1 := zk1.symm; subst lk1 yk1 zk1
  obtain ⟨rfl, Nk1q, ek1⟩ := hQk1
  have Nk1 := Fr.app N0 Nk1q
  obtain ⟨_, _, ⟨Tk2, Lk2, kk2, nk2⟩, -, Xk2, ⟨Lck2, hQk2, lk2, yk2, zk2⟩, stk2⟩ := Jvm.LawKit.callS Xk1 hx (y := (⟨"com/example/surepath/surepath/LatticesHalvedPinLaw", "at", "([DII)D"⟩ : MethodName)) hown (mvT hZ (own_W hw 10 rfl)) (mvT hZ (own_W hw 11 rfl)) (mvT hZ (own_W hw 8 rfl)) (mvT hZ (own_W hw 12 rfl)) (by decide) (backOf (W := 2) (own_rmatB4 l Z a0 hw [] r0 p1 k_r0 x_r0_0 x_r0_1 x_r0_2 x_r0_3 x_r0_4 x_r0_5 x_r0_6 x_r0_7 h0 n0 Z0 V_r0 c19_hc6) hZ (own_W hw 12 rfl) (own_W hw 8 rfl) (by decide) (by decide)) (g := (mkF m 19 #[.val (.ref r0), .val (.int p1), .val (.int 2)] [(.int 4), (.int p1), (.ref r0), (.double (FP.ddiv x_r0_3 (4611686018427387904 : UInt64)))])) rfl (by rw [hml]; rfl) (argsL := [(.ref r0), (.int p1), (.int 4)]) (rest := [(.double (FP.ddiv x_r0_3 (4611686018427387904 : UInt64)))]) (lenOf own_pd0 rfl) rfl (by show 2 * 0 + _ ≤ _; exact Nat.le_of_eq rfl) (hb hby own_d2_19) (fun _ _ => ⟨rfl, ek1, (by decide : 0 + 0 ≤ _), (by decide : 0 + 0 ≤ _)⟩)
  dsimp only [Pt.U, Pt.locs, Pt.cells, Pt.slots] at Xk2 lk2 yk2 zk2 stk2 hQk2
  replace lk2 := lk2.symm; replace yk2 := yk2.symm; replace zk2 := zk2.symm; subst lk2 yk2 zk2
  obtain ⟨rfl, Nk2q, ek2⟩ := hQk2
  have Nk2 := Fr.app Nk1 Nk2q
  obtain ⟨_, _, ⟨Tk3, Lk3, kk3, nk3⟩, -, Xk3, ⟨Lck3, hQk3, lk3, yk3, zk3⟩, stk3⟩ := Jvm.LawKit.callS Xk2 hx (y := (⟨"com/example/surepath/surepath/LatticesHalvedPinLaw", "at", "([DII)D"⟩ : MethodName)) hown (mvT hZ (own_W hw 10 rfl)) (mvT hZ (own_W hw 11 rfl)) (mvT hZ (own_W hw 8 rfl)) (mvT hZ (own_W hw 12 rfl)) (by decide) (backOf (W := 2) (own_rmatB5 l Z a0 hw [] r0 p1 k_r0 x_r0_0 x_r0_1 x_r0_2 x_r0_3 x_r0_4 x_r0_5 x_r0_6 x_r0_7 h0 n0 Z0 V_r0 c30_hc6) hZ (own_W hw 12 rfl) (own_W hw 8 rfl) (by decide) (by decide)) (g := (mkF m 30 #[.val (.ref r0), .val (.int p1), .val (.int 2)] [(.int 5), (.int p1), (.ref r0), (.double (FP.dadd (FP.ddiv x_r0_3 (4611686018427387904 : UInt64)) x_r0_4))])) rfl (by rw [hml]; rfl) (argsL := [(.ref r0), (.int p1), (.int 5)]) (rest := [(.double (FP.dadd (FP.ddiv x_r0_3 (4611686018427387904 : UInt64)) x_r0_4))]) (lenOf own_pd0 rfl) rfl (by show 2 * 0 + _ ≤ _; exact Nat.le_of_eq rfl) (hb hby own_d2_30) (fun _ _ => ⟨rfl, ek2, (by decide : 0 + 0 ≤ _), (by decide : 0 + 0 ≤ _)⟩)
  dsimp only [Pt.U, Pt.locs, Pt.cells, Pt.slots] at Xk3 lk3 yk3 zk3 stk3 hQk3
  replace lk3 := lk3.symm; replace yk3 := yk3.symm; replace zk3 := zk3.symm; subst lk3 yk3 zk3
  obtain ⟨rfl, Nk3q, ek3⟩ := hQk3
  have Nk3 := Fr.app Nk2 Nk3q
  obtain ⟨fs, hr, hrun, hended, hW, hsame⟩ := Xk3.leave (v := some (.double (FP.dadd (FP.dadd (FP.ddiv x_r0_3 (4611686018427387904 : UInt64)) x_r0_4) (FP.ddiv x_r0_5 (4611686018427387904 : UInt64))))) (fun h => by rw [Bd.returns] at h; cases h)
  refine ⟨_, _, pre0 _ (?_), hrun, hended, _, _, rfl, ?_, ⟨_, rfl⟩, hW, hsame.mono (by decide) (by decide)⟩
  · show Steps p.tables e below (s₁.setTop (mkF m 0 #[.val (.ref r0), .val (.int p1), .val (.int 2)] [])) _
    refine XS.aloadN X0.here hx rfl (hb hby own_d2_0) rfl rfl ?_
    refine XS.iloadN X0.here hx rfl (hb hby own_d2_1) rfl ?_
    refine XS.iconst X0.here hx rfl (hb hby own_d2_2) ?_
    refine XS.iloadN X0.here hx rfl (hb hby own_d2_3) rfl ?_
    refine XS.imul X0.here hx rfl (hb hby own_d2_4) rfl ?_
    show Steps p.tables e below (s₁.setTop (mkF m 5 #[.val (.ref r0), .val (.int p1), .val (.int 2)] [(.int 4), (.int p1), (.ref r0)])) _
    refine XS.iconst X0.here hx rfl (hb hby own_d2_5) ?_
    refine XS.isub X0.here hx rfl (hb hby own_d2_6) rfl ?_
    refine stk1 _ ?_
    show Steps p.tables e below (Tk1.setTop (mkF m 10 #[.val (.ref r0), .val (.int p1), .val (.int 2)] [(.double x_r0_3)])) _
    refine Xk1.ldc2DoubleC hx hown (mvT hZ (own_W hw 13 rfl)) (g := (mkF m 10 #[.val (.ref r0), .val (.int p1), .val (.int 2)] [(.double x_r0_3)])) rfl (hb hby own_d2_10) _ ?_
    refine XS.ddivS Xk1.here hx rfl (hb hby own_d2_13) rfl nn13 rfl ?_
    refine XS.aloadN Xk1.here hx rfl (hb hby own_d2_14) rfl rfl ?_
    refine XS.iloadN Xk1.here hx rfl (hb hby own_d2_15) rfl ?_
    refine XS.iconst Xk1.here hx rfl (hb hby own_d2_16) ?_
    refine XS.iloadN Xk1.here hx rfl (hb hby own_d2_17) rfl ?_
    refine XS.imul Xk1.here hx rfl (hb hby own_d2_18) rfl ?_
    show Steps p.tables e below (Tk1.setTop (mkF m 19 #[.val (.ref r0), .val (.int p1), .val (.int 2)] [(.int 4), (.int p1), (.ref r0), (.double (FP.ddiv x_r0_3 (4611686018427387904 : UInt64)))])) _
    refine stk2 _ ?_
    refine XS.daddS Xk2.here hx rfl (hb hby own_d2_22) rfl nn22 rfl ?_
    refine XS.aloadN Xk2.here hx rfl (hb hby own_d2_23) rfl rfl ?_
    refine XS.iloadN Xk2.here hx rfl (hb hby own_d2_24) rfl ?_
    refine XS.iconst Xk2.here hx rfl (hb hby own_d2_25) ?_
    refine XS.iloadN Xk2.here hx rfl (hb hby own_d2_26) rfl ?_
    refine XS.imul Xk2.here hx rfl (hb hby own_d2_27) rfl ?_
    show Steps p.tables e below (Tk2.setTop (mkF m 28 #[.val (.ref r0), .val (.int p1), .val (.int 2)] [(.int 4), (.int p1), (.ref r0), (.double (FP.dadd (FP.ddiv x_r0_3 (4611686018427387904 : UInt64)) x_r0_4))])) _
    refine XS.iconst Xk2.here hx rfl (hb hby own_d2_28) ?_
    refine XS.iadd Xk2.here hx rfl (hb hby own_d2_29) rfl ?_
    refine stk3 _ ?_
    show Steps p.tables e below (Tk3.setTop (mkF m 33 #[.val (.ref r0), .val (.int p1), .val (.int 2)] [(.double x_r0_5), (.double (FP.dadd (FP.ddiv x_r0_3 (4611686018427387904 : UInt64)) x_r0_4))])) _
    refine Xk3.ldc2DoubleC hx hown (mvT hZ (own_W hw 13 rfl)) (g := (mkF m 33 #[.val (.ref r0), .val (.int p1), .val (.int 2)] [(.double x_r0_5), (.double (FP.dadd (FP.ddiv x_r0_3 (4611686018427387904 : UInt64)) x_r0_4))])) rfl (hb hby own_d2_33) _ ?_
    refine XS.ddivS Xk3.here hx rfl (hb hby own_d2_36) rfl nn36 rfl ?_
    refine XS.daddS Xk3.here hx rfl (hb hby own_d2_37) rfl nn37 rfl ?_
    show Steps p.tables e below (Tk3.setTop (mkF m 38 #[.val (.ref r0), .val (.int p1), .val (.int 2)] [(.double (FP.dadd (FP.dadd (FP.ddiv x_r0_3 (4611686018427387904 : UInt64)) x_r0_4) (FP.ddiv x_r0_5 (4611686018427387904 : UInt64))))])) _
    exact own_retD Xk3 hx Bd.returns (hb hby own_d2_38) hr
  · show own_Qex26 Z r0 p1 k_r0 x_r0_0 x_r0_1 x_r0_2 x_r0_3 x_r0_4 x_r0_5 x_r0_6 x_r0_7 h0 n0 _ Tk3.heap _
    rw [ek3]
    exact ⟨rfl, Nk3, rfl⟩
def own_rex36_0 (x_r0_5 : UInt64) : UInt64 := (FP.dadd (FP.dadd (FP.ddiv x_r0_5 (4611686018427387904 : UInt64)) (0 : UInt64)) (FP.ddiv (0 : UInt64) (4611686018427387904 : UInt64)))
theorem own_efex36 (m : MethodId) (r0 : Addr) (p1 : Int32) : entryFrame m #[(.ref r0), (.int p1), (.int 3)] 3 = mkF m 0 #[.val (.ref r0), .val (.int p1), .val (.int 3)] [] := by first | (simp [entryFrame, mkF, argsToLocals, Value.category]; done) | rfl
def own_Qex36 (Z : State) (r0 : Addr) (p1 : Int32) (k_r0 : ClassId) (x_r0_0 : UInt64) (x_r0_1 : UInt64) (x_r0_2 : UInt64) (x_r0_3 : UInt64) (x_r0_4 : UInt64) (x_r0_5 : UInt64) (x_r0_6 : UInt64) (x_r0_7 : UInt64) (h0 : Heap) (n0 : Nat) (v : Option Value) (h : Heap) (L : List Loc) : Prop := v = some (.double (own_rex36_0 x_r0_5)) ∧ Fr n0 L ∧ h = h0
set_option maxRecDepth 65536 in
set_option maxHeartbeats 40000000 in
theorem own_rmex36 (l : Launch) (Z : State) (a0 : Array Value) (hw : ∀ d ∈ tables_1, d.before a0 Z = true) (ws : List Jvm.Cond) (r0 : Addr) (p1 : Int32) (k_r0 : ClassId) (x_r0_0 : UInt64) (x_r0_1 : UInt64) (x_r0_2 : UInt64) (x_r0_3 : UInt64) (x_r0_4 : UInt64) (x_r0_5 : UInt64) (x_r0_6 : UInt64) (x_r0_7 : UInt64) (h0 : Heap) (n0 : Nat) (Z0 : n0 ≤ h0.size) (V_r0 : Arv Z h0 r0 k_r0 .double (8 : Int32) [(.double x_r0_0), (.double x_r0_1), (.double x_r0_2), (.double x_r0_3), (.double x_r0_4), (.double x_r0_5), (.double x_r0_6), (.double x_r0_7)] (.double 0)) (c7_hc6 : (5 : Int32) < p1) (nn13 : NoNaN64 (FP.ddiv x_r0_5 (4611686018427387904 : UInt64))) (c19_hc6 : ¬ ((6 : Int32) < p1)) (nn22 : NoNaN64 (FP.dadd (FP.ddiv x_r0_5 (4611686018427387904 : UInt64)) (0 : UInt64))) (c30_hc6 : ¬ ((7 : Int32) < p1)) (nn36 : NoNaN64 (FP.ddiv (0 : UInt64) (4611686018427387904 : UInt64))) (nn37 : NoNaN64 (FP.dadd (FP.dadd (FP.ddiv x_r0_5 (4611686018427387904 : UInt64)) (0 : UInt64)) (FP.ddiv (0 : UInt64) (4611686018427387904 : UInt64)))) :
    MetFree l (⟨"com/example/surepath/surepath/LatticesHalvedPinLaw", "expect", "([DII)D"⟩ : MethodName) (head1 (Jvm.Cond.code (⟨"com/example/surepath/surepath/LatticesHalvedPinLaw", "expect", "([DII)D"⟩ : MethodName) method_3_code 3 (some .double) :: ws) ({ frames := 1, cells := 0, slots := 0, locals := 16 } : Room)) (fun a U => a = #[(.ref r0), (.int p1), (.int 3)] ∧ Z.Warmed39 U.vm ∧ U.heap = h0) (fun _ _ _ _ _ => True) (fun _ U o U' => ∃ v L, o = .returned v ∧ own_Qex36 Z r0 p1 k_r0 x_r0_0 x_r0_1 x_r0_2 x_r0_3 x_r0_4 x_r0_5 x_r0_6 x_r0_7 h0 n0 v U'.heap L ∧ FrameEnd U o U' L ({ frames := 1, cells := 0, slots := 0, locals := 16 } : Room).cells ({ frames := 1, cells := 0, slots := 0, locals := 16 } : Room).slots) := by
  refine MetFree.of_bodySF (plainFor_of_name own_pn0) hisR ?_
  intro p e s m args below meth c s₁ Bd hml0 hP hK
  obtain ⟨rfl, hZ, hh⟩ := hP
  have hx := Bd.exec
  have hby := Bd.bytes
  have hml : c.maxLocals = 3 := hml0
  have hown : s.vm.findClass "com/example/surepath/surepath/LatticesHalvedPinLaw" = some m.cls := findClass_of_methodNamed Bd.named
  have hnm := (name_of_methodNamed Bd.named Bd.method).1
  have X0 : Stand p l e ({ frames := 1, cells := 0, slots := 0, locals := 16 } : Room) s m #[(.ref r0), (.int p1), (.int 3)] below meth c s₁ [] 0 0 := Stand.of_body Bd
  have e0 : s₁.heap = h0 := by rw [← hh, Bd.state]; rfl
  have N0 := Fr.nil n0
  have Zr : h0.size ≤ h0.size := Nat.le_refl _
  have pre0 : ∀ t, Steps p.tables e below (s₁.setTop (mkF m 0 #[.val (.ref r0), .val (.int p1), .val (.int 3)] [])) t → Steps p.tables e below (s₁.setTop (entryFrame m #[(.ref r0), (.int p1), (.int 3)] 3)) t := fun t k => castTop (own_efex36 m r0 p1) k
  obtain ⟨_, _, ⟨Tk1, Lk1, kk1, nk1⟩, -, Xk1, ⟨Lck1, hQk1, lk1, yk1, zk1⟩, stk1⟩ := Jvm.LawKit.callS X0 hx (y := (⟨"com/example/surepath/surepath/LatticesHalvedPinLaw", "at", "([DII)D"⟩ : MethodName)) hown (mvT hZ (own_W hw 10 rfl)) (mvT hZ (own_W hw 11 rfl)) (mvT hZ (own_W hw 8 rfl)) (mvT hZ (own_W hw 12 rfl)) (by decide) (backOf (W := 0) (own_rmatB5 l Z a0 hw [] r0 p1 k_r0 x_r0_0 x_r0_1 x_r0_2 x_r0_3 x_r0_4 x_r0_5 x_r0_6 x_r0_7 h0 n0 Z0 V_r0 c7_hc6) hZ (own_W hw 12 rfl) (own_W hw 8 rfl) (by decide) (by decide)) (g := (mkF m 7 #[.val (.ref r0), .val (.int p1), .val (.int 3)] [(.int 5), (.int p1), (.ref r0)])) rfl (by rw [hml]; rfl) (argsL := [(.ref r0), (.int p1), (.int 5)]) (rest := []) (lenOf own_pd0 rfl) rfl (by show 2 * 0 + _ ≤ _; exact Nat.le_of_eq rfl) (hb hby own_d2_7) (fun _ _ => ⟨rfl, e0, (by decide : 0 + 0 ≤ _), (by decide : 0 + 0 ≤ _)⟩)
  dsimp only [Pt.U, Pt.locs, Pt.cells, Pt.slots] at Xk1 lk1 yk1 zk1 stk1 hQk1
  replace lk1 := lk1.symm; replace yk1 := yk1.symm; replace zk1 := zk1.symm; subst lk1 yk1 zk1
  obtain ⟨rfl, Nk1q, ek1⟩ := hQk1
  have Nk1 := Fr.app N0 Nk1q
  obtain ⟨_, _, ⟨Tk2, Lk2, kk2, nk2⟩, -, Xk2, ⟨Lck2, hQk2, lk2, yk2, zk2⟩, stk2⟩ := Jvm.LawKit.callS Xk1 hx (y := (⟨"com/example/surepath/surepath/LatticesHalvedPinLaw", "at", "([DII)D"⟩ : MethodName)) hown (mvT hZ (own_W hw 10 rfl)) (mvT hZ (own_W hw 11 rfl)) (mvT hZ (own_W hw 8 rfl)) (mvT hZ (own_W hw 12 rfl)) (by decide) (backOf (W := 2) (own_rmatC l Z a0 hw [] r0 p1 (6 : Int32) h0 n0 Z0 (by decide) c19_hc6) hZ (own_W hw 12 rfl) (own_W hw 8 rfl) (by decide) (by decide)) (g := (mkF m 19 #[.val (.ref r0), .val (.int p1), .val (.int 3)] [(.int 6), (.int p1), (.ref r0), (.double (FP.ddiv x_r0_5 (4611686018427387904 : UInt64)))])) rfl (by rw [hml]; rfl) (argsL := [(.ref r0), (.int p1), (.int 6)]) (rest := [(.double (FP.ddiv x_r0_5 (4611686018427387904 : UInt64)))]) (lenOf own_pd0 rfl) rfl (by show 2 * 0 + _ ≤ _; exact Nat.le_of_eq rfl) (hb hby own_d2_19) (fun _ _ => ⟨rfl, ek1, (by decide : 0 + 0 ≤ _), (by decide : 0 + 0 ≤ _)⟩)
  dsimp only [Pt.U, Pt.locs, Pt.cells, Pt.slots] at Xk2 lk2 yk2 zk2 stk2 hQk2
  replace lk2 := lk2.symm; replace yk2 := yk2.symm; replace zk2 := zk2.symm; subst lk2 yk2 zk2
  obtain ⟨rfl, Nk2q, ek2⟩ := hQk2
  have Nk2 := Fr.app Nk1 Nk2q
  obtain ⟨_, _, ⟨Tk3, Lk3, kk3, nk3⟩, -, Xk3, ⟨Lck3, hQk3, lk3, yk3, zk3⟩, stk3⟩ := Jvm.LawKit.callS Xk2 hx (y := (⟨"com/example/surepath/surepath/LatticesHalvedPinLaw", "at", "([DII)D"⟩ : MethodName)) hown (mvT hZ (own_W hw 10 rfl)) (mvT hZ (own_W hw 11 rfl)) (mvT hZ (own_W hw 8 rfl)) (mvT hZ (own_W hw 12 rfl)) (by decide) (backOf (W := 2) (own_rmatC l Z a0 hw [] r0 p1 (7 : Int32) h0 n0 Z0 (by decide) c30_hc6) hZ (own_W hw 12 rfl) (own_W hw 8 rfl) (by decide) (by decide)) (g := (mkF m 30 #[.val (.ref r0), .val (.int p1), .val (.int 3)] [(.int 7), (.int p1), (.ref r0), (.double (FP.dadd (FP.ddiv x_r0_5 (4611686018427387904 : UInt64)) (0 : UInt64)))])) rfl (by rw [hml]; rfl) (argsL := [(.ref r0), (.int p1), (.int 7)]) (rest := [(.double (FP.dadd (FP.ddiv x_r0_5 (4611686018427387904 : UInt64)) (0 : UInt64)))]) (lenOf own_pd0 rfl) rfl (by show 2 * 0 + _ ≤ _; exact Nat.le_of_eq rfl) (hb hby own_d2_30) (fun _ _ => ⟨rfl, ek2, (by decide : 0 + 0 ≤ _), (by decide : 0 + 0 ≤ _)⟩)
  dsimp only [Pt.U, Pt.locs, Pt.cells, Pt.slots] at Xk3 lk3 yk3 zk3 stk3 hQk3
  replace lk3 := lk3.symm; replace yk3 := yk3.symm; replace zk3 := zk3.symm; subst lk3 yk3 zk3
  obtain ⟨rfl, Nk3q, ek3⟩ := hQk3
  have Nk3 := Fr.app Nk2 Nk3q
  obtain ⟨fs, hr, hrun, hended, hW, hsame⟩ := Xk3.leave (v := some (.double (FP.dadd (FP.dadd (FP.ddiv x_r0_5 (4611686018427387904 : UInt64)) (0 : UInt64)) (FP.ddiv (0 : UInt64) (4611686018427387904 : UInt64))))) (fun h => by rw [Bd.returns] at h; cases h)
  refine ⟨_, _, pre0 _ (?_), hrun, hended, _, _, rfl, ?_, ⟨_, rfl⟩, hW, hsame.mono (by decide) (by decide)⟩
  · show Steps p.tables e below (s₁.setTop (mkF m 0 #[.val (.ref r0), .val (.int p1), .val (.int 3)] [])) _
    refine XS.aloadN X0.here hx rfl (hb hby own_d2_0) rfl rfl ?_
    refine XS.iloadN X0.here hx rfl (hb hby own_d2_1) rfl ?_
    refine XS.iconst X0.here hx rfl (hb hby own_d2_2) ?_
    refine XS.iloadN X0.here hx rfl (hb hby own_d2_3) rfl ?_
    refine XS.imul X0.here hx rfl (hb hby own_d2_4) rfl ?_
    show Steps p.tables e below (s₁.setTop (mkF m 5 #[.val (.ref r0), .val (.int p1), .val (.int 3)] [(.int 6), (.int p1), (.ref r0)])) _
    refine XS.iconst X0.here hx rfl (hb hby own_d2_5) ?_
    refine XS.isub X0.here hx rfl (hb hby own_d2_6) rfl ?_
    refine stk1 _ ?_
    show Steps p.tables e below (Tk1.setTop (mkF m 10 #[.val (.ref r0), .val (.int p1), .val (.int 3)] [(.double x_r0_5)])) _
    refine Xk1.ldc2DoubleC hx hown (mvT hZ (own_W hw 13 rfl)) (g := (mkF m 10 #[.val (.ref r0), .val (.int p1), .val (.int 3)] [(.double x_r0_5)])) rfl (hb hby own_d2_10) _ ?_
    refine XS.ddivS Xk1.here hx rfl (hb hby own_d2_13) rfl nn13 rfl ?_
    refine XS.aloadN Xk1.here hx rfl (hb hby own_d2_14) rfl rfl ?_
    refine XS.iloadN Xk1.here hx rfl (hb hby own_d2_15) rfl ?_
    refine XS.iconst Xk1.here hx rfl (hb hby own_d2_16) ?_
    refine XS.iloadN Xk1.here hx rfl (hb hby own_d2_17) rfl ?_
    refine XS.imul Xk1.here hx rfl (hb hby own_d2_18) rfl ?_
    show Steps p.tables e below (Tk1.setTop (mkF m 19 #[.val (.ref r0), .val (.int p1), .val (.int 3)] [(.int 6), (.int p1), (.ref r0), (.double (FP.ddiv x_r0_5 (4611686018427387904 : UInt64)))])) _
    refine stk2 _ ?_
    refine XS.daddS Xk2.here hx rfl (hb hby own_d2_22) rfl nn22 rfl ?_
    refine XS.aloadN Xk2.here hx rfl (hb hby own_d2_23) rfl rfl ?_
    refine XS.iloadN Xk2.here hx rfl (hb hby own_d2_24) rfl ?_
    refine XS.iconst Xk2.here hx rfl (hb hby own_d2_25) ?_
    refine XS.iloadN Xk2.here hx rfl (hb hby own_d2_26) rfl ?_
    refine XS.imul Xk2.here hx rfl (hb hby own_d2_27) rfl ?_
    show Steps p.tables e below (Tk2.setTop (mkF m 28 #[.val (.ref r0), .val (.int p1), .val (.int 3)] [(.int 6), (.int p1), (.ref r0), (.double (FP.dadd (FP.ddiv x_r0_5 (4611686018427387904 : UInt64)) (0 : UInt64)))])) _
    refine XS.iconst Xk2.here hx rfl (hb hby own_d2_28) ?_
    refine XS.iadd Xk2.here hx rfl (hb hby own_d2_29) rfl ?_
    refine stk3 _ ?_
    show Steps p.tables e below (Tk3.setTop (mkF m 33 #[.val (.ref r0), .val (.int p1), .val (.int 3)] [(.double 0), (.double (FP.dadd (FP.ddiv x_r0_5 (4611686018427387904 : UInt64)) (0 : UInt64)))])) _
    refine Xk3.ldc2DoubleC hx hown (mvT hZ (own_W hw 13 rfl)) (g := (mkF m 33 #[.val (.ref r0), .val (.int p1), .val (.int 3)] [(.double 0), (.double (FP.dadd (FP.ddiv x_r0_5 (4611686018427387904 : UInt64)) (0 : UInt64)))])) rfl (hb hby own_d2_33) _ ?_
    refine XS.ddivS Xk3.here hx rfl (hb hby own_d2_36) rfl nn36 rfl ?_
    refine XS.daddS Xk3.here hx rfl (hb hby own_d2_37) rfl nn37 rfl ?_
    show Steps p.tables e below (Tk3.setTop (mkF m 38 #[.val (.ref r0), .val (.int p1), .val (.int 3)] [(.double (FP.dadd (FP.dadd (FP.ddiv x_r0_5 (4611686018427387904 : UInt64)) (0 : UInt64)) (FP.ddiv (0 : UInt64) (4611686018427387904 : UInt64))))])) _
    exact own_retD Xk3 hx Bd.returns (hb hby own_d2_38) hr
  · show own_Qex36 Z r0 p1 k_r0 x_r0_0 x_r0_1 x_r0_2 x_r0_3 x_r0_4 x_r0_5 x_r0_6 x_r0_7 h0 n0 _ Tk3.heap _
    rw [ek3]
    exact ⟨rfl, Nk3, rfl⟩
def own_rex37_0 (x_r0_5 : UInt64) (x_r0_6 : UInt64) : UInt64 := (FP.dadd (FP.dadd (FP.ddiv x_r0_5 (4611686018427387904 : UInt64)) x_r0_6) (FP.ddiv (0 : UInt64) (4611686018427387904 : UInt64)))
theorem own_efex37 (m : MethodId) (r0 : Addr) (p1 : Int32) : entryFrame m #[(.ref r0), (.int p1), (.int 3)] 3 = mkF m 0 #[.val (.ref r0), .val (.int p1), .val (.int 3)] [] := by first | (simp [entryFrame, mkF, argsToLocals, Value.category]; done) | rfl
def own_Qex37 (Z : State) (r0 : Addr) (p1 : Int32) (k_r0 : ClassId) (x_r0_0 : UInt64) (x_r0_1 : UInt64) (x_r0_2 : UInt64) (x_r0_3 : UInt64) (x_r0_4 : UInt64) (x_r0_5 : UInt64) (x_r0_6 : UInt64) (x_r0_7 : UInt64) (h0 : Heap) (n0 : Nat) (v : Option Value) (h : Heap) (L : List Loc) : Prop := v = some (.double (own_rex37_0 x_r0_5 x_r0_6)) ∧ Fr n0 L ∧ h = h0
set_option maxRecDepth 65536 in
set_option maxHeartbeats 40000000 in
theorem own_rmex37 (l : Launch) (Z : State) (a0 : Array Value) (hw : ∀ d ∈ tables_1, d.before a0 Z = true) (ws : List Jvm.Cond) (r0 : Addr) (p1 : Int32) (k_r0 : ClassId) (x_r0_0 : UInt64) (x_r0_1 : UInt64) (x_r0_2 : UInt64) (x_r0_3 : UInt64) (x_r0_4 : UInt64) (x_r0_5 : UInt64) (x_r0_6 : UInt64) (x_r0_7 : UInt64) (h0 : Heap) (n0 : Nat) (Z0 : n0 ≤ h0.size) (V_r0 : Arv Z h0 r0 k_r0 .double (8 : Int32) [(.double x_r0_0), (.double x_r0_1), (.double x_r0_2), (.double x_r0_3), (.double x_r0_4), (.double x_r0_5), (.double x_r0_6), (.double x_r0_7)] (.double 0)) (c7_hc6 : (5 : Int32) < p1) (nn13 : NoNaN64 (FP.ddiv x_r0_5 (4611686018427387904 : UInt64))) (c19_hc6 : (6 : Int32) < p1) (nn22 : NoNaN64 (FP.dadd (FP.ddiv x_r0_5 (4611686018427387904 : UInt64)) x_r0_6)) (c30_hc6 : ¬ ((7 : Int32) < p1)) (nn36 : NoNaN64 (FP.ddiv (0 : UInt64) (4611686018427387904 : UInt64))) (nn37 : NoNaN64 (FP.dadd (FP.dadd (FP.ddiv x_r0_5 (4611686018427387904 : UInt64)) x_r0_6) (FP.ddiv (0 : UInt64) (4611686018427387904 : UInt64)))) :
    MetFree l (⟨"com/example/surepath/surepath/LatticesHalvedPinLaw", "expect", "([DII)D"⟩ : MethodName) (head1 (Jvm.Cond.code (⟨"com/example/surepath/surepath/LatticesHalvedPinLaw", "expect", "([DII)D"⟩ : MethodName) method_3_code 3 (some .double) :: ws) ({ frames := 1, cells := 0, slots := 0, locals := 16 } : Room)) (fun a U => a = #[(.ref r0), (.int p1), (.int 3)] ∧ Z.Warmed39 U.vm ∧ U.heap = h0) (fun _ _ _ _ _ => True) (fun _ U o U' => ∃ v L, o = .returned v ∧ own_Qex37 Z r0 p1 k_r0 x_r0_0 x_r0_1 x_r0_2 x_r0_3 x_r0_4 x_r0_5 x_r0_6 x_r0_7 h0 n0 v U'.heap L ∧ FrameEnd U o U' L ({ frames := 1, cells := 0, slots := 0, locals := 16 } : Room).cells ({ frames := 1, cells := 0, slots := 0, locals := 16 } : Room).slots) := by
  refine MetFree.of_bodySF (plainFor_of_name own_pn0) hisR ?_
  intro p e s m args below meth c s₁ Bd hml0 hP hK
  obtain ⟨rfl, hZ, hh⟩ := hP
  have hx := Bd.exec
  have hby := Bd.bytes
  have hml : c.maxLocals = 3 := hml0
  have hown : s.vm.findClass "com/example/surepath/surepath/LatticesHalvedPinLaw" = some m.cls := findClass_of_methodNamed Bd.named
  have hnm := (name_of_methodNamed Bd.named Bd.method).1
  have X0 : Stand p l e ({ frames := 1, cells := 0, slots := 0, locals := 16 } : Room) s m #[(.ref r0), (.int p1), (.int 3)] below meth c s₁ [] 0 0 := Stand.of_body Bd
  have e0 : s₁.heap = h0 := by rw [← hh, Bd.state]; rfl
  have N0 := Fr.nil n0
  have Zr : h0.size ≤ h0.size := Nat.le_refl _
  have pre0 : ∀ t, Steps p.tables e below (s₁.setTop (mkF m 0 #[.val (.ref r0), .val (.int p1), .val (.int 3)] [])) t → Steps p.tables e below (s₁.setTop (entryFrame m #[(.ref r0), (.int p1), (.int 3)] 3)) t := fun t k => castTop (own_efex37 m r0 p1) k
  obtain ⟨_, _, ⟨Tk1, Lk1, kk1, nk1⟩, -, Xk1, ⟨Lck1, hQk1, lk1, yk1, zk1⟩, stk1⟩ := Jvm.LawKit.callS X0 hx (y := (⟨"com/example/surepath/surepath/LatticesHalvedPinLaw", "at", "([DII)D"⟩ : MethodName)) hown (mvT hZ (own_W hw 10 rfl)) (mvT hZ (own_W hw 11 rfl)) (mvT hZ (own_W hw 8 rfl)) (mvT hZ (own_W hw 12 rfl)) (by decide) (backOf (W := 0) (own_rmatB5 l Z a0 hw [] r0 p1 k_r0 x_r0_0 x_r0_1 x_r0_2 x_r0_3 x_r0_4 x_r0_5 x_r0_6 x_r0_7 h0 n0 Z0 V_r0 c7_hc6) hZ (own_W hw 12 rfl) (own_W hw 8 rfl) (by decide) (by decide)) (g := (mkF m 7 #[.val (.ref r0), .val (.int p1), .val (.int 3)] [(.int 5), (.int p1), (.ref r0)])) rfl (by rw [hml]; rfl) (argsL := [(.ref r0), (.int p1), (.int 5)]) (rest := []) (lenOf own_pd0 rfl) rfl (by show 2 * 0 + _ ≤ _; exact Nat.le_of_eq rfl) (hb hby own_d2_7) (fun _ _ => ⟨rfl, e0, (by decide : 0 + 0 ≤ _), (by decide : 0 + 0 ≤ _)⟩)
  dsimp only [Pt.U, Pt.locs, Pt.cells, Pt.slots] at Xk1 lk1 yk1 zk1 stk1 hQk1
  replace lk1 := lk1.symm; replace yk1 := yk1.symm; replace zk1 := zk1.symm; subst lk1 yk1 zk1
  obtain ⟨rfl, Nk1q, ek1⟩ := hQk1
  have Nk1 := Fr.app N0 Nk1q
  obtain ⟨_, _, ⟨Tk2, Lk2, kk2, nk2⟩, -, Xk2, ⟨Lck2, hQk2, lk2, yk2, zk2⟩, stk2⟩ := Jvm.LawKit.callS Xk1 hx (y := (⟨"com/example/surepath/surepath/LatticesHalvedPinLaw", "at", "([DII)D"⟩ : MethodName)) hown (mvT hZ (own_W hw 10 rfl)) (mvT hZ (own_W hw 11 rfl)) (mvT hZ (own_W hw 8 rfl)) (mvT hZ (own_W hw 12 rfl)) (by decide) (backOf (W := 2) (own_rmatB6 l Z a0 hw [] r0 p1 k_r0 x_r0_0 x_r0_1 x_r0_2 x_r0_3 x_r0_4 x_r0_5 x_r0_6 x_r0_7 h0 n0 Z0 V_r0 c19_hc6) hZ (own_W hw 12 rfl) (own_W hw 8 rfl) (by decide) (by decide)) (g := (mkF m 19 #[.val (.ref r0), .val (.int p1), .val (.int 3)] [(.int 6), (.int p1), (.ref r0), (.double (FP.ddiv x_r0_5 (4611686018427387904 : UInt64)))])) rfl (by rw [hml]; rfl) (argsL := [(.ref r0), (.int p1), (.int 6)]) (rest := [(.double (FP.ddiv x_r0_5 (4611686018427387904 : UInt64)))]) (lenOf own_pd0 rfl) rfl (by show 2 * 0 + _ ≤ _; exact Nat.le_of_eq rfl) (hb hby own_d2_19) (fun _ _ => ⟨rfl, ek1, (by decide : 0 + 0 ≤ _), (by decide : 0 + 0 ≤ _)⟩)
  dsimp only [Pt.U, Pt.locs, Pt.cells, Pt.slots] at Xk2 lk2 yk2 zk2 stk2 hQk2
  replace lk2 := lk2.symm; replace yk2 := yk2.symm; replace zk2 := zk2.symm; subst lk2 yk2 zk2
  obtain ⟨rfl, Nk2q, ek2⟩ := hQk2
  have Nk2 := Fr.app Nk1 Nk2q
  obtain ⟨_, _, ⟨Tk3, Lk3, kk3, nk3⟩, -, Xk3, ⟨Lck3, hQk3, lk3, yk3, zk3⟩, stk3⟩ := Jvm.LawKit.callS Xk2 hx (y := (⟨"com/example/surepath/surepath/LatticesHalvedPinLaw", "at", "([DII)D"⟩ : MethodName)) hown (mvT hZ (own_W hw 10 rfl)) (mvT hZ (own_W hw 11 rfl)) (mvT hZ (own_W hw 8 rfl)) (mvT hZ (own_W hw 12 rfl)) (by decide) (backOf (W := 2) (own_rmatC l Z a0 hw [] r0 p1 (7 : Int32) h0 n0 Z0 (by decide) c30_hc6) hZ (own_W hw 12 rfl) (own_W hw 8 rfl) (by decide) (by decide)) (g := (mkF m 30 #[.val (.ref r0), .val (.int p1), .val (.int 3)] [(.int 7), (.int p1), (.ref r0), (.double (FP.dadd (FP.ddiv x_r0_5 (4611686018427387904 : UInt64)) x_r0_6))])) rfl (by rw [hml]; rfl) (argsL := [(.ref r0), (.int p1), (.int 7)]) (rest := [(.double (FP.dadd (FP.ddiv x_r0_5 (4611686018427387904 : UInt64)) x_r0_6))]) (lenOf own_pd0 rfl) rfl (by show 2 * 0 + _ ≤ _; exact Nat.le_of_eq rfl) (hb hby own_d2_30) (fun _ _ => ⟨rfl, ek2, (by decide : 0 + 0 ≤ _), (by decide : 0 + 0 ≤ _)⟩)
  dsimp only [Pt.U, Pt.locs, Pt.cells, Pt.slots] at Xk3 lk3 yk3 zk3 stk3 hQk3
  replace lk3 := lk3.symm; replace yk3 := yk3.symm; replace zk3 := zk3.symm; subst lk3 yk3 zk3
  obtain ⟨rfl, Nk3q, ek3⟩ := hQk3
  have Nk3 := Fr.app Nk2 Nk3q
  obtain ⟨fs, hr, hrun, hended, hW, hsame⟩ := Xk3.leave (v := some (.double (FP.dadd (FP.dadd (FP.ddiv x_r0_5 (4611686018427387904 : UInt64)) x_r0_6) (FP.ddiv (0 : UInt64) (4611686018427387904 : UInt64))))) (fun h => by rw [Bd.returns] at h; cases h)
  refine ⟨_, _, pre0 _ (?_), hrun, hended, _, _, rfl, ?_, ⟨_, rfl⟩, hW, hsame.mono (by decide) (by decide)⟩
  · show Steps p.tables e below (s₁.setTop (mkF m 0 #[.val (.ref r0), .val (.int p1), .val (.int 3)] [])) _
    refine XS.aloadN X0.here hx rfl (hb hby own_d2_0) rfl rfl ?_
    refine XS.iloadN X0.here hx rfl (hb hby own_d2_1) rfl ?_
    refine XS.iconst X0.here hx rfl (hb hby own_d2_2) ?_
    refine XS.iloadN X0.here hx rfl (hb hby own_d2_3) rfl ?_
    refine XS.imul X0.here hx rfl (hb hby own_d2_4) rfl ?_
    show Steps p.tables e below (s₁.setTop (mkF m 5 #[.val (.ref r0), .val (.int p1), .val (.int 3)] [(.int 6), (.int p1), (.ref r0)])) _
    refine XS.iconst X0.here hx rfl (hb hby own_d2_5) ?_
    refine XS.isub X0.here hx rfl (hb hby own_d2_6) rfl ?_
    refine stk1 _ ?_
    show Steps p.tables e below (Tk1.setTop (mkF m 10 #[.val (.ref r0), .val (.int p1), .val (.int 3)] [(.double x_r0_5)])) _
    refine Xk1.ldc2DoubleC hx hown (mvT hZ (own_W hw 13 rfl)) (g := (mkF m 10 #[.val (.ref r0), .val (.int p1), .val (.int 3)] [(.double x_r0_5)])) rfl (hb hby own_d2_10) _ ?_
    refine XS.ddivS Xk1.here hx rfl (hb hby own_d2_13) rfl nn13 rfl ?_
    refine XS.aloadN Xk1.here hx rfl (hb hby own_d2_14) rfl rfl ?_
    refine XS.iloadN Xk1.here hx rfl (hb hby own_d2_15) rfl ?_
    refine XS.iconst Xk1.here hx rfl (hb hby own_d2_16) ?_
    refine XS.iloadN Xk1.here hx rfl (hb hby own_d2_17) rfl ?_
    refine XS.imul Xk1.here hx rfl (hb hby own_d2_18) rfl ?_
    show Steps p.tables e below (Tk1.setTop (mkF m 19 #[.val (.ref r0), .val (.int p1), .val (.int 3)] [(.int 6), (.int p1), (.ref r0), (.double (FP.ddiv x_r0_5 (4611686018427387904 : UInt64)))])) _
    refine stk2 _ ?_
    refine XS.daddS Xk2.here hx rfl (hb hby own_d2_22) rfl nn22 rfl ?_
    refine XS.aloadN Xk2.here hx rfl (hb hby own_d2_23) rfl rfl ?_
    refine XS.iloadN Xk2.here hx rfl (hb hby own_d2_24) rfl ?_
    refine XS.iconst Xk2.here hx rfl (hb hby own_d2_25) ?_
    refine XS.iloadN Xk2.here hx rfl (hb hby own_d2_26) rfl ?_
    refine XS.imul Xk2.here hx rfl (hb hby own_d2_27) rfl ?_
    show Steps p.tables e below (Tk2.setTop (mkF m 28 #[.val (.ref r0), .val (.int p1), .val (.int 3)] [(.int 6), (.int p1), (.ref r0), (.double (FP.dadd (FP.ddiv x_r0_5 (4611686018427387904 : UInt64)) x_r0_6))])) _
    refine XS.iconst Xk2.here hx rfl (hb hby own_d2_28) ?_
    refine XS.iadd Xk2.here hx rfl (hb hby own_d2_29) rfl ?_
    refine stk3 _ ?_
    show Steps p.tables e below (Tk3.setTop (mkF m 33 #[.val (.ref r0), .val (.int p1), .val (.int 3)] [(.double 0), (.double (FP.dadd (FP.ddiv x_r0_5 (4611686018427387904 : UInt64)) x_r0_6))])) _
    refine Xk3.ldc2DoubleC hx hown (mvT hZ (own_W hw 13 rfl)) (g := (mkF m 33 #[.val (.ref r0), .val (.int p1), .val (.int 3)] [(.double 0), (.double (FP.dadd (FP.ddiv x_r0_5 (4611686018427387904 : UInt64)) x_r0_6))])) rfl (hb hby own_d2_33) _ ?_
    refine XS.ddivS Xk3.here hx rfl (hb hby own_d2_36) rfl nn36 rfl ?_
    refine XS.daddS Xk3.here hx rfl (hb hby own_d2_37) rfl nn37 rfl ?_
    show Steps p.tables e below (Tk3.setTop (mkF m 38 #[.val (.ref r0), .val (.int p1), .val (.int 3)] [(.double (FP.dadd (FP.dadd (FP.ddiv x_r0_5 (4611686018427387904 : UInt64)) x_r0_6) (FP.ddiv (0 : UInt64) (4611686018427387904 : UInt64))))])) _
    exact own_retD Xk3 hx Bd.returns (hb hby own_d2_38) hr
  · show own_Qex37 Z r0 p1 k_r0 x_r0_0 x_r0_1 x_r0_2 x_r0_3 x_r0_4 x_r0_5 x_r0_6 x_r0_7 h0 n0 _ Tk3.heap _
    rw [ek3]
    exact ⟨rfl, Nk3, rfl⟩
def own_rex38_0 (x_r0_5 : UInt64) (x_r0_6 : UInt64) (x_r0_7 : UInt64) : UInt64 := (FP.dadd (FP.dadd (FP.ddiv x_r0_5 (4611686018427387904 : UInt64)) x_r0_6) (FP.ddiv x_r0_7 (4611686018427387904 : UInt64)))
theorem own_efex38 (m : MethodId) (r0 : Addr) (p1 : Int32) : entryFrame m #[(.ref r0), (.int p1), (.int 3)] 3 = mkF m 0 #[.val (.ref r0), .val (.int p1), .val (.int 3)] [] := by first | (simp [entryFrame, mkF, argsToLocals, Value.category]; done) | rfl
def own_Qex38 (Z : State) (r0 : Addr) (p1 : Int32) (k_r0 : ClassId) (x_r0_0 : UInt64) (x_r0_1 : UInt64) (x_r0_2 : UInt64) (x_r0_3 : UInt64) (x_r0_4 : UInt64) (x_r0_5 : UInt64) (x_r0_6 : UInt64) (x_r0_7 : UInt64) (h0 : Heap) (n0 : Nat) (v : Option Value) (h : Heap) (L : List Loc) : Prop := v = some (.double (own_rex38_0 x_r0_5 x_r0_6 x_r0_7)) ∧ Fr n0 L ∧ h = h0
set_option maxRecDepth 65536 in
set_option maxHeartbeats 40000000 in
theorem own_rmex38 (l : Launch) (Z : State) (a0 : Array Value) (hw : ∀ d ∈ tables_1, d.before a0 Z = true) (ws : List Jvm.Cond) (r0 : Addr) (p1 : Int32) (k_r0 : ClassId) (x_r0_0 : UInt64) (x_r0_1 : UInt64) (x_r0_2 : UInt64) (x_r0_3 : UInt64) (x_r0_4 : UInt64) (x_r0_5 : UInt64) (x_r0_6 : UInt64) (x_r0_7 : UInt64) (h0 : Heap) (n0 : Nat) (Z0 : n0 ≤ h0.size) (V_r0 : Arv Z h0 r0 k_r0 .double (8 : Int32) [(.double x_r0_0), (.double x_r0_1), (.double x_r0_2), (.double x_r0_3), (.double x_r0_4), (.double x_r0_5), (.double x_r0_6), (.double x_r0_7)] (.double 0)) (c7_hc6 : (5 : Int32) < p1) (nn13 : NoNaN64 (FP.ddiv x_r0_5 (4611686018427387904 : UInt64))) (c19_hc6 : (6 : Int32) < p1) (nn22 : NoNaN64 (FP.dadd (FP.ddiv x_r0_5 (4611686018427387904 : UInt64)) x_r0_6)) (c30_hc6 : (7 : Int32) < p1) (nn36 : NoNaN64 (FP.ddiv x_r0_7 (4611686018427387904 : UInt64))) (nn37 : NoNaN64 (FP.dadd (FP.dadd (FP.ddiv x_r0_5 (4611686018427387904 : UInt64)) x_r0_6) (FP.ddiv x_r0_7 (4611686018427387904 : UInt64)))) :
    MetFree l (⟨"com/example/surepath/surepath/LatticesHalvedPinLaw", "expect", "([DII)D"⟩ : MethodName) (head1 (Jvm.Cond.code (⟨"com/example/surepath/surepath/LatticesHalvedPinLaw", "expect", "([DII)D"⟩ : MethodName) method_3_code 3 (some .double) :: ws) ({ frames := 1, cells := 0, slots := 0, locals := 16 } : Room)) (fun a U => a = #[(.ref r0), (.int p1), (.int 3)] ∧ Z.Warmed39 U.vm ∧ U.heap = h0) (fun _ _ _ _ _ => True) (fun _ U o U' => ∃ v L, o = .returned v ∧ own_Qex38 Z r0 p1 k_r0 x_r0_0 x_r0_1 x_r0_2 x_r0_3 x_r0_4 x_r0_5 x_r0_6 x_r0_7 h0 n0 v U'.heap L ∧ FrameEnd U o U' L ({ frames := 1, cells := 0, slots := 0, locals := 16 } : Room).cells ({ frames := 1, cells := 0, slots := 0, locals := 16 } : Room).slots) := by
  refine MetFree.of_bodySF (plainFor_of_name own_pn0) hisR ?_
  intro p e s m args below meth c s₁ Bd hml0 hP hK
  obtain ⟨rfl, hZ, hh⟩ := hP
  have hx := Bd.exec
  have hby := Bd.bytes
  have hml : c.maxLocals = 3 := hml0
  have hown : s.vm.findClass "com/example/surepath/surepath/LatticesHalvedPinLaw" = some m.cls := findClass_of_methodNamed Bd.named
  have hnm := (name_of_methodNamed Bd.named Bd.method).1
  have X0 : Stand p l e ({ frames := 1, cells := 0, slots := 0, locals := 16 } : Room) s m #[(.ref r0), (.int p1), (.int 3)] below meth c s₁ [] 0 0 := Stand.of_body Bd
  have e0 : s₁.heap = h0 := by rw [← hh, Bd.state]; rfl
  have N0 := Fr.nil n0
  have Zr : h0.size ≤ h0.size := Nat.le_refl _
  have pre0 : ∀ t, Steps p.tables e below (s₁.setTop (mkF m 0 #[.val (.ref r0), .val (.int p1), .val (.int 3)] [])) t → Steps p.tables e below (s₁.setTop (entryFrame m #[(.ref r0), (.int p1), (.int 3)] 3)) t := fun t k => castTop (own_efex38 m r0 p1) k
  obtain ⟨_, _, ⟨Tk1, Lk1, kk1, nk1⟩, -, Xk1, ⟨Lck1, hQk1, lk1, yk1, zk1⟩, stk1⟩ := Jvm.LawKit.callS X0 hx (y := (⟨"com/example/surepath/surepath/LatticesHalvedPinLaw", "at", "([DII)D"⟩ : MethodName)) hown (mvT hZ (own_W hw 10 rfl)) (mvT hZ (own_W hw 11 rfl)) (mvT hZ (own_W hw 8 rfl)) (mvT hZ (own_W hw 12 rfl)) (by decide) (backOf (W := 0) (own_rmatB5 l Z a0 hw [] r0 p1 k_r0 x_r0_0 x_r0_1 x_r0_2 x_r0_3 x_r0_4 x_r0_5 x_r0_6 x_r0_7 h0 n0 Z0 V_r0 c7_hc6) hZ (own_W hw 12 rfl) (own_W hw 8 rfl) (by decide) (by decide)) (g := (mkF m 7 #[.val (.ref r0), .val (.int p1), .val (.int 3)] [(.int 5), (.int p1), (.ref r0)])) rfl (by rw [hml]; rfl) (argsL := [(.ref r0), (.int p1), (.int 5)]) (rest := []) (lenOf own_pd0 rfl) rfl (by show 2 * 0 + _ ≤ _; exact Nat.le_of_eq rfl) (hb hby own_d2_7) (fun _ _ => ⟨rfl, e0, (by decide : 0 + 0 ≤ _), (by decide : 0 + 0 ≤ _)⟩)
  dsimp only [Pt.U, Pt.locs, Pt.cells, Pt.slots] at Xk1 lk1 yk1 zk1 stk1 hQk1
  replace lk1 := lk1.symm; replace yk1 := yk1.symm; replace zk1 := zk1.symm; subst lk1 yk1 zk1
  obtain ⟨rfl, Nk1q, ek1⟩ := hQk1
  have Nk1 := Fr.app N0 Nk1q
  obtain ⟨_, _, ⟨Tk2, Lk2, kk2, nk2⟩, -, Xk2, ⟨Lck2, hQk2, lk2, yk2, zk2⟩, stk2⟩ := Jvm.LawKit.callS Xk1 hx (y := (⟨"com/example/surepath/surepath/LatticesHalvedPinLaw", "at", "([DII)D"⟩ : MethodName)) hown (mvT hZ (own_W hw 10 rfl)) (mvT hZ (own_W hw 11 rfl)) (mvT hZ (own_W hw 8 rfl)) (mvT hZ (own_W hw 12 rfl)) (by decide) (backOf (W := 2) (own_rmatB6 l Z a0 hw [] r0 p1 k_r0 x_r0_0 x_r0_1 x_r0_2 x_r0_3 x_r0_4 x_r0_5 x_r0_6 x_r0_7 h0 n0 Z0 V_r0 c19_hc6) hZ (own_W hw 12 rfl) (own_W hw 8 rfl) (by decide) (by decide)) (g := (mkF m 19 #[.val (.ref r0), .val (.int p1), .val (.int 3)] [(.int 6), (.int p1), (.ref r0), (.double (FP.ddiv x_r0_5 (4611686018427387904 : UInt64)))])) rfl (by rw [hml]; rfl) (argsL := [(.ref r0), (.int p1), (.int 6)]) (rest := [(.double (FP.ddiv x_r0_5 (4611686018427387904 : UInt64)))]) (lenOf own_pd0 rfl) rfl (by show 2 * 0 + _ ≤ _; exact Nat.le_of_eq rfl) (hb hby own_d2_19) (fun _ _ => ⟨rfl, ek1, (by decide : 0 + 0 ≤ _), (by decide : 0 + 0 ≤ _)⟩)
  dsimp only [Pt.U, Pt.locs, Pt.cells, Pt.slots] at Xk2 lk2 yk2 zk2 stk2 hQk2
  replace lk2 := lk2.symm; replace yk2 := yk2.symm; replace zk2 := zk2.symm; subst lk2 yk2 zk2
  obtain ⟨rfl, Nk2q, ek2⟩ := hQk2
  have Nk2 := Fr.app Nk1 Nk2q
  obtain ⟨_, _, ⟨Tk3, Lk3, kk3, nk3⟩, -, Xk3, ⟨Lck3, hQk3, lk3, yk3, zk3⟩, stk3⟩ := Jvm.LawKit.callS Xk2 hx (y := (⟨"com/example/surepath/surepath/LatticesHalvedPinLaw", "at", "([DII)D"⟩ : MethodName)) hown (mvT hZ (own_W hw 10 rfl)) (mvT hZ (own_W hw 11 rfl)) (mvT hZ (own_W hw 8 rfl)) (mvT hZ (own_W hw 12 rfl)) (by decide) (backOf (W := 2) (own_rmatB7 l Z a0 hw [] r0 p1 k_r0 x_r0_0 x_r0_1 x_r0_2 x_r0_3 x_r0_4 x_r0_5 x_r0_6 x_r0_7 h0 n0 Z0 V_r0 c30_hc6) hZ (own_W hw 12 rfl) (own_W hw 8 rfl) (by decide) (by decide)) (g := (mkF m 30 #[.val (.ref r0), .val (.int p1), .val (.int 3)] [(.int 7), (.int p1), (.ref r0), (.double (FP.dadd (FP.ddiv x_r0_5 (4611686018427387904 : UInt64)) x_r0_6))])) rfl (by rw [hml]; rfl) (argsL := [(.ref r0), (.int p1), (.int 7)]) (rest := [(.double (FP.dadd (FP.ddiv x_r0_5 (4611686018427387904 : UInt64)) x_r0_6))]) (lenOf own_pd0 rfl) rfl (by show 2 * 0 + _ ≤ _; exact Nat.le_of_eq rfl) (hb hby own_d2_30) (fun _ _ => ⟨rfl, ek2, (by decide : 0 + 0 ≤ _), (by decide : 0 + 0 ≤ _)⟩)
  dsimp only [Pt.U, Pt.locs, Pt.cells, Pt.slots] at Xk3 lk3 yk3 zk3 stk3 hQk3
  replace lk3 := lk3.symm; replace yk3 := yk3.symm; replace zk3 := zk3.symm; subst lk3 yk3 zk3
  obtain ⟨rfl, Nk3q, ek3⟩ := hQk3
  have Nk3 := Fr.app Nk2 Nk3q
  obtain ⟨fs, hr, hrun, hended, hW, hsame⟩ := Xk3.leave (v := some (.double (FP.dadd (FP.dadd (FP.ddiv x_r0_5 (4611686018427387904 : UInt64)) x_r0_6) (FP.ddiv x_r0_7 (4611686018427387904 : UInt64))))) (fun h => by rw [Bd.returns] at h; cases h)
  refine ⟨_, _, pre0 _ (?_), hrun, hended, _, _, rfl, ?_, ⟨_, rfl⟩, hW, hsame.mono (by decide) (by decide)⟩
  · show Steps p.tables e below (s₁.setTop (mkF m 0 #[.val (.ref r0), .val (.int p1), .val (.int 3)] [])) _
    refine XS.aloadN X0.here hx rfl (hb hby own_d2_0) rfl rfl ?_
    refine XS.iloadN X0.here hx rfl (hb hby own_d2_1) rfl ?_
    refine XS.iconst X0.here hx rfl (hb hby own_d2_2) ?_
    refine XS.iloadN X0.here hx rfl (hb hby own_d2_3) rfl ?_
    refine XS.imul X0.here hx rfl (hb hby own_d2_4) rfl ?_
    show Steps p.tables e below (s₁.setTop (mkF m 5 #[.val (.ref r0), .val (.int p1), .val (.int 3)] [(.int 6), (.int p1), (.ref r0)])) _
    refine XS.iconst X0.here hx rfl (hb hby own_d2_5) ?_
    refine XS.isub X0.here hx rfl (hb hby own_d2_6) rfl ?_
    refine stk1 _ ?_
    show Steps p.tables e below (Tk1.setTop (mkF m 10 #[.val (.ref r0), .val (.int p1), .val (.int 3)] [(.double x_r0_5)])) _
    refine Xk1.ldc2DoubleC hx hown (mvT hZ (own_W hw 13 rfl)) (g := (mkF m 10 #[.val (.ref r0), .val (.int p1), .val (.int 3)] [(.double x_r0_5)])) rfl (hb hby own_d2_10) _ ?_
    refine XS.ddivS Xk1.here hx rfl (hb hby own_d2_13) rfl nn13 rfl ?_
    refine XS.aloadN Xk1.here hx rfl (hb hby own_d2_14) rfl rfl ?_
    refine XS.iloadN Xk1.here hx rfl (hb hby own_d2_15) rfl ?_
    refine XS.iconst Xk1.here hx rfl (hb hby own_d2_16) ?_
    refine XS.iloadN Xk1.here hx rfl (hb hby own_d2_17) rfl ?_
    refine XS.imul Xk1.here hx rfl (hb hby own_d2_18) rfl ?_
    show Steps p.tables e below (Tk1.setTop (mkF m 19 #[.val (.ref r0), .val (.int p1), .val (.int 3)] [(.int 6), (.int p1), (.ref r0), (.double (FP.ddiv x_r0_5 (4611686018427387904 : UInt64)))])) _
    refine stk2 _ ?_
    refine XS.daddS Xk2.here hx rfl (hb hby own_d2_22) rfl nn22 rfl ?_
    refine XS.aloadN Xk2.here hx rfl (hb hby own_d2_23) rfl rfl ?_
    refine XS.iloadN Xk2.here hx rfl (hb hby own_d2_24) rfl ?_
    refine XS.iconst Xk2.here hx rfl (hb hby own_d2_25) ?_
    refine XS.iloadN Xk2.here hx rfl (hb hby own_d2_26) rfl ?_
    refine XS.imul Xk2.here hx rfl (hb hby own_d2_27) rfl ?_
    show Steps p.tables e below (Tk2.setTop (mkF m 28 #[.val (.ref r0), .val (.int p1), .val (.int 3)] [(.int 6), (.int p1), (.ref r0), (.double (FP.dadd (FP.ddiv x_r0_5 (4611686018427387904 : UInt64)) x_r0_6))])) _
    refine XS.iconst Xk2.here hx rfl (hb hby own_d2_28) ?_
    refine XS.iadd Xk2.here hx rfl (hb hby own_d2_29) rfl ?_
    refine stk3 _ ?_
    show Steps p.tables e below (Tk3.setTop (mkF m 33 #[.val (.ref r0), .val (.int p1), .val (.int 3)] [(.double x_r0_7), (.double (FP.dadd (FP.ddiv x_r0_5 (4611686018427387904 : UInt64)) x_r0_6))])) _
    refine Xk3.ldc2DoubleC hx hown (mvT hZ (own_W hw 13 rfl)) (g := (mkF m 33 #[.val (.ref r0), .val (.int p1), .val (.int 3)] [(.double x_r0_7), (.double (FP.dadd (FP.ddiv x_r0_5 (4611686018427387904 : UInt64)) x_r0_6))])) rfl (hb hby own_d2_33) _ ?_
    refine XS.ddivS Xk3.here hx rfl (hb hby own_d2_36) rfl nn36 rfl ?_
    refine XS.daddS Xk3.here hx rfl (hb hby own_d2_37) rfl nn37 rfl ?_
    show Steps p.tables e below (Tk3.setTop (mkF m 38 #[.val (.ref r0), .val (.int p1), .val (.int 3)] [(.double (FP.dadd (FP.dadd (FP.ddiv x_r0_5 (4611686018427387904 : UInt64)) x_r0_6) (FP.ddiv x_r0_7 (4611686018427387904 : UInt64))))])) _
    exact own_retD Xk3 hx Bd.returns (hb hby own_d2_38) hr
  · show own_Qex38 Z r0 p1 k_r0 x_r0_0 x_r0_1 x_r0_2 x_r0_3 x_r0_4 x_r0_5 x_r0_6 x_r0_7 h0 n0 _ Tk3.heap _
    rw [ek3]
    exact ⟨rfl, Nk3, rfl⟩
def own_rex48_0 (x_r0_7 : UInt64) : UInt64 := (FP.dadd (FP.dadd (FP.ddiv x_r0_7 (4611686018427387904 : UInt64)) (0 : UInt64)) (FP.ddiv (0 : UInt64) (4611686018427387904 : UInt64)))
theorem own_efex48 (m : MethodId) (r0 : Addr) (p1 : Int32) : entryFrame m #[(.ref r0), (.int p1), (.int 4)] 3 = mkF m 0 #[.val (.ref r0), .val (.int p1), .val (.int 4)] [] := by first | (simp [entryFrame, mkF, argsToLocals, Value.category]; done) | rfl
def own_Qex48 (Z : State) (r0 : Addr) (p1 : Int32) (k_r0 : ClassId) (x_r0_0 : UInt64) (x_r0_1 : UInt64) (x_r0_2 : UInt64) (x_r0_3 : UInt64) (x_r0_4 : UInt64) (x_r0_5 : UInt64) (x_r0_6 : UInt64) (x_r0_7 : UInt64) (h0 : Heap) (n0 : Nat) (v : Option Value) (h : Heap) (L : List Loc) : Prop := v = some (.double (own_rex48_0 x_r0_7)) ∧ Fr n0 L ∧ h = h0
set_option maxRecDepth 65536 in
set_option maxHeartbeats 40000000 in
theorem own_rmex48 (l : Launch) (Z : State) (a0 : Array Value) (hw : ∀ d ∈ tables_1, d.before a0 Z = true) (ws : List Jvm.Cond) (r0 : Addr) (p1 : Int32) (k_r0 : ClassId) (x_r0_0 : UInt64) (x_r0_1 : UInt64) (x_r0_2 : UInt64) (x_r0_3 : UInt64) (x_r0_4 : UInt64) (x_r0_5 : UInt64) (x_r0_6 : UInt64) (x_r0_7 : UInt64) (h0 : Heap) (n0 : Nat) (Z0 : n0 ≤ h0.size) (V_r0 : Arv Z h0 r0 k_r0 .double (8 : Int32) [(.double x_r0_0), (.double x_r0_1), (.double x_r0_2), (.double x_r0_3), (.double x_r0_4), (.double x_r0_5), (.double x_r0_6), (.double x_r0_7)] (.double 0)) (c7_hc6 : (7 : Int32) < p1) (nn13 : NoNaN64 (FP.ddiv x_r0_7 (4611686018427387904 : UInt64))) (c19_hc6 : ¬ ((8 : Int32) < p1)) (nn22 : NoNaN64 (FP.dadd (FP.ddiv x_r0_7 (4611686018427387904 : UInt64)) (0 : UInt64))) (c30_hc6 : ¬ ((9 : Int32) < p1)) (nn36 : NoNaN64 (FP.ddiv (0 : UInt64) (4611686018427387904 : UInt64))) (nn37 : NoNaN64 (FP.dadd (FP.dadd (FP.ddiv x_r0_7 (4611686018427387904 : UInt64)) (0 : UInt64)) (FP.ddiv (0 : UInt64) (4611686018427387904 : UInt64)))) :
    MetFree l (⟨"com/example/surepath/surepath/LatticesHalvedPinLaw", "expect", "([DII)D"⟩ : MethodName) (head1 (Jvm.Cond.code (⟨"com/example/surepath/surepath/LatticesHalvedPinLaw", "expect", "([DII)D"⟩ : MethodName) method_3_code 3 (some .double) :: ws) ({ frames := 1, cells := 0, slots := 0, locals := 16 } : Room)) (fun a U => a = #[(.ref r0), (.int p1), (.int 4)] ∧ Z.Warmed39 U.vm ∧ U.heap = h0) (fun _ _ _ _ _ => True) (fun _ U o U' => ∃ v L, o = .returned v ∧ own_Qex48 Z r0 p1 k_r0 x_r0_0 x_r0_1 x_r0_2 x_r0_3 x_r0_4 x_r0_5 x_r0_6 x_r0_7 h0 n0 v U'.heap L ∧ FrameEnd U o U' L ({ frames := 1, cells := 0, slots := 0, locals := 16 } : Room).cells ({ frames := 1, cells := 0, slots := 0, locals := 16 } : Room).slots) := by
  refine MetFree.of_bodySF (plainFor_of_name own_pn0) hisR ?_
  intro p e s m args below meth c s₁ Bd hml0 hP hK
  obtain ⟨rfl, hZ, hh⟩ := hP
  have hx := Bd.exec
  have hby := Bd.bytes
  have hml : c.maxLocals = 3 := hml0
  have hown : s.vm.findClass "com/example/surepath/surepath/LatticesHalvedPinLaw" = some m.cls := findClass_of_methodNamed Bd.named
  have hnm := (name_of_methodNamed Bd.named Bd.method).1
  have X0 : Stand p l e ({ frames := 1, cells := 0, slots := 0, locals := 16 } : Room) s m #[(.ref r0), (.int p1), (.int 4)] below meth c s₁ [] 0 0 := Stand.of_body Bd
  have e0 : s₁.heap = h0 := by rw [← hh, Bd.state]; rfl
  have N0 := Fr.nil n0
  have Zr : h0.size ≤ h0.size := Nat.le_refl _
  have pre0 : ∀ t, Steps p.tables e below (s₁.setTop (mkF m 0 #[.val (.ref r0), .val (.int p1), .val (.int 4)] [])) t → Steps p.tables e below (s₁.setTop (entryFrame m #[(.ref r0), (.int p1), (.int 4)] 3)) t := fun t k => castTop (own_efex48 m r0 p1) k
  obtain ⟨_, _, ⟨Tk1, Lk1, kk1, nk1⟩, -, Xk1, ⟨Lck1, hQk1, lk1, yk1, zk1⟩, stk1⟩ := Jvm.LawKit.callS X0 hx (y := (⟨"com/example/surepath/surepath/LatticesHalvedPinLaw", "at", "([DII)D"⟩ : MethodName)) hown (mvT hZ (own_W hw 10 rfl)) (mvT hZ (own_W hw 11 rfl)) (mvT hZ (own_W hw 8 rfl)) (mvT hZ (own_W hw 12 rfl)) (by decide) (backOf (W := 0) (own_rmatB7 l Z a0 hw [] r0 p1 k_r0 x_r0_0 x_r0_1 x_r0_2 x_r0_3 x_r0_4 x_r0_5 x_r0_6 x_r0_7 h0 n0 Z0 V_r0 c7_hc6) hZ (own_W hw 12 rfl) (own_W hw 8 rfl) (by decide) (by decide)) (g := (mkF m 7 #[.val (.ref r0), .val (.int p1), .val (.int 4)] [(.int 7), (.int p1), (.ref r0)])) rfl (by rw [hml]; rfl) (argsL := [(.ref r0), (.int p1), (.int 7)]) (rest := []) (lenOf own_pd0 rfl) rfl (by show 2 * 0 + _ ≤ _; exact Nat.le_of_eq rfl) (hb hby own_d2_7) (fun _ _ => ⟨rfl, e0, (by decide : 0 + 0 ≤ _), (by decide : 0 + 0 ≤ _)⟩)
  dsimp only [Pt.U, Pt.locs, Pt.cells, Pt.slots] at Xk1 lk1 yk1 zk1 stk1 hQk1
  replace lk1 := lk1.symm; replace yk1 := yk1.symm; replace zk1 := zk1.symm; subst lk1 yk1 zk1
  obtain ⟨rfl, Nk1q, ek1⟩ := hQk1
  have Nk1 := Fr.app N0 Nk1q
  obtain ⟨_, _, ⟨Tk2, Lk2, kk2, nk2⟩, -, Xk2, ⟨Lck2, hQk2, lk2, yk2, zk2⟩, stk2⟩ := Jvm.LawKit.callS Xk1 hx (y := (⟨"com/example/surepath/surepath/LatticesHalvedPinLaw", "at", "([DII)D"⟩ : MethodName)) hown (mvT hZ (own_W hw 10 rfl)) (mvT hZ (own_W hw 11 rfl)) (mvT hZ (own_W hw 8 rfl)) (mvT hZ (own_W hw 12 rfl)) (by decide) (backOf (W := 2) (own_rmatC l Z a0 hw [] r0 p1 (8 : Int32) h0 n0 Z0 (by decide) c19_hc6) hZ (own_W hw 12 rfl) (own_W hw 8 rfl) (by decide) (by decide)) (g := (mkF m 19 #[.val (.ref r0), .val (.int p1), .val (.int 4)] [(.int 8), (.int p1), (.ref r0), (.double (FP.ddiv x_r0_7 (4611686018427387904 : UInt64)))])) rfl (by rw [hml]; rfl) (argsL := [(.ref r0), (.int p1), (.int 8)]) (rest := [(.double (FP.ddiv x_r0_7 (4611686018427387904 : UInt64)))]) (lenOf own_pd0 rfl) rfl (by show 2 * 0 + _ ≤ _; exact Nat.le_of_eq rfl) (hb hby own_d2_19) (fun _ _ => ⟨rfl, ek1, (by decide : 0 + 0 ≤ _), (by decide : 0 + 0 ≤ _)⟩)
  dsimp only [Pt.U, Pt.locs, Pt.cells, Pt.slots] at Xk2 lk2 yk2 zk2 stk2 hQk2
  replace lk2 := lk2.symm; replace yk2 := yk2.symm; replace zk2 := zk2.symm; subst lk2 yk2 zk2
  obtain ⟨rfl, Nk2q, ek2⟩ := hQk2
  have Nk2 := Fr.app Nk1 Nk2q
  obtain ⟨_, _, ⟨Tk3, Lk3, kk3, nk3⟩, -, Xk3, ⟨Lck3, hQk3, lk3, yk3, zk3⟩, stk3⟩ := Jvm.LawKit.callS Xk2 hx (y := (⟨"com/example/surepath/surepath/LatticesHalvedPinLaw", "at", "([DII)D"⟩ : MethodName)) hown (mvT hZ (own_W hw 10 rfl)) (mvT hZ (own_W hw 11 rfl)) (mvT hZ (own_W hw 8 rfl)) (mvT hZ (own_W hw 12 rfl)) (by decide) (backOf (W := 2) (own_rmatC l Z a0 hw [] r0 p1 (9 : Int32) h0 n0 Z0 (by decide) c30_hc6) hZ (own_W hw 12 rfl) (own_W hw 8 rfl) (by decide) (by decide)) (g := (mkF m 30 #[.val (.ref r0), .val (.int p1), .val (.int 4)] [(.int 9), (.int p1), (.ref r0), (.double (FP.dadd (FP.ddiv x_r0_7 (4611686018427387904 : UInt64)) (0 : UInt64)))])) rfl (by rw [hml]; rfl) (argsL := [(.ref r0), (.int p1), (.int 9)]) (rest := [(.double (FP.dadd (FP.ddiv x_r0_7 (4611686018427387904 : UInt64)) (0 : UInt64)))]) (lenOf own_pd0 rfl) rfl (by show 2 * 0 + _ ≤ _; exact Nat.le_of_eq rfl) (hb hby own_d2_30) (fun _ _ => ⟨rfl, ek2, (by decide : 0 + 0 ≤ _), (by decide : 0 + 0 ≤ _)⟩)
  dsimp only [Pt.U, Pt.locs, Pt.cells, Pt.slots] at Xk3 lk3 yk3 zk3 stk3 hQk3
  replace lk3 := lk3.symm; replace yk3 := yk3.symm; replace zk3 := zk3.symm; subst lk3 yk3 zk3
  obtain ⟨rfl, Nk3q, ek3⟩ := hQk3
  have Nk3 := Fr.app Nk2 Nk3q
  obtain ⟨fs, hr, hrun, hended, hW, hsame⟩ := Xk3.leave (v := some (.double (FP.dadd (FP.dadd (FP.ddiv x_r0_7 (4611686018427387904 : UInt64)) (0 : UInt64)) (FP.ddiv (0 : UInt64) (4611686018427387904 : UInt64))))) (fun h => by rw [Bd.returns] at h; cases h)
  refine ⟨_, _, pre0 _ (?_), hrun, hended, _, _, rfl, ?_, ⟨_, rfl⟩, hW, hsame.mono (by decide) (by decide)⟩
  · show Steps p.tables e below (s₁.setTop (mkF m 0 #[.val (.ref r0), .val (.int p1), .val (.int 4)] [])) _
    refine XS.aloadN X0.here hx rfl (hb hby own_d2_0) rfl rfl ?_
    refine XS.iloadN X0.here hx rfl (hb hby own_d2_1) rfl ?_
    refine XS.iconst X0.here hx rfl (hb hby own_d2_2) ?_
    refine XS.iloadN X0.here hx rfl (hb hby own_d2_3) rfl ?_
    refine XS.imul X0.here hx rfl (hb hby own_d2_4) rfl ?_
    show Steps p.tables e below (s₁.setTop (mkF m 5 #[.val (.ref r0), .val (.int p1), .val (.int 4)] [(.int 8), (.int p1), (.ref r0)])) _
    refine XS.iconst X0.here hx rfl (hb hby own_d2_5) ?_
    refine XS.isub X0.here hx rfl (hb hby own_d2_6) rfl ?_
    refine stk1 _ ?_
    show Steps p.tables e below (Tk1.setTop (mkF m 10 #[.val (.ref r0), .val (.int p1), .val (.int 4)] [(.double x_r0_7)])) _
    refine Xk1.ldc2DoubleC hx hown (mvT hZ (own_W hw 13 rfl)) (g := (mkF m 10 #[.val (.ref r0), .val (.int p1), .val (.int 4)] [(.double x_r0_7)])) rfl (hb hby own_d2_10) _ ?_
    refine XS.ddivS Xk1.here hx rfl (hb hby own_d2_13) rfl nn13 rfl ?_
    refine XS.aloadN Xk1.here hx rfl (hb hby own_d2_14) rfl rfl ?_
    refine XS.iloadN Xk1.here hx rfl (hb hby own_d2_15) rfl ?_
    refine XS.iconst Xk1.here hx rfl (hb hby own_d2_16) ?_
    refine XS.iloadN Xk1.here hx rfl (hb hby own_d2_17) rfl ?_
    refine XS.imul Xk1.here hx rfl (hb hby own_d2_18) rfl ?_
    show Steps p.tables e below (Tk1.setTop (mkF m 19 #[.val (.ref r0), .val (.int p1), .val (.int 4)] [(.int 8), (.int p1), (.ref r0), (.double (FP.ddiv x_r0_7 (4611686018427387904 : UInt64)))])) _
    refine stk2 _ ?_
    refine XS.daddS Xk2.here hx rfl (hb hby own_d2_22) rfl nn22 rfl ?_
    refine XS.aloadN Xk2.here hx rfl (hb hby own_d2_23) rfl rfl ?_
    refine XS.iloadN Xk2.here hx rfl (hb hby own_d2_24) rfl ?_
    refine XS.iconst Xk2.here hx rfl (hb hby own_d2_25) ?_
    refine XS.iloadN Xk2.here hx rfl (hb hby own_d2_26) rfl ?_
    refine XS.imul Xk2.here hx rfl (hb hby own_d2_27) rfl ?_
    show Steps p.tables e below (Tk2.setTop (mkF m 28 #[.val (.ref r0), .val (.int p1), .val (.int 4)] [(.int 8), (.int p1), (.ref r0), (.double (FP.dadd (FP.ddiv x_r0_7 (4611686018427387904 : UInt64)) (0 : UInt64)))])) _
    refine XS.iconst Xk2.here hx rfl (hb hby own_d2_28) ?_
    refine XS.iadd Xk2.here hx rfl (hb hby own_d2_29) rfl ?_
    refine stk3 _ ?_
    show Steps p.tables e below (Tk3.setTop (mkF m 33 #[.val (.ref r0), .val (.int p1), .val (.int 4)] [(.double 0), (.double (FP.dadd (FP.ddiv x_r0_7 (4611686018427387904 : UInt64)) (0 : UInt64)))])) _
    refine Xk3.ldc2DoubleC hx hown (mvT hZ (own_W hw 13 rfl)) (g := (mkF m 33 #[.val (.ref r0), .val (.int p1), .val (.int 4)] [(.double 0), (.double (FP.dadd (FP.ddiv x_r0_7 (4611686018427387904 : UInt64)) (0 : UInt64)))])) rfl (hb hby own_d2_33) _ ?_
    refine XS.ddivS Xk3.here hx rfl (hb hby own_d2_36) rfl nn36 rfl ?_
    refine XS.daddS Xk3.here hx rfl (hb hby own_d2_37) rfl nn37 rfl ?_
    show Steps p.tables e below (Tk3.setTop (mkF m 38 #[.val (.ref r0), .val (.int p1), .val (.int 4)] [(.double (FP.dadd (FP.dadd (FP.ddiv x_r0_7 (4611686018427387904 : UInt64)) (0 : UInt64)) (FP.ddiv (0 : UInt64) (4611686018427387904 : UInt64))))])) _
    exact own_retD Xk3 hx Bd.returns (hb hby own_d2_38) hr
  · show own_Qex48 Z r0 p1 k_r0 x_r0_0 x_r0_1 x_r0_2 x_r0_3 x_r0_4 x_r0_5 x_r0_6 x_r0_7 h0 n0 _ Tk3.heap _
    rw [ek3]
    exact ⟨rfl, Nk3, rfl⟩
theorem own_pn1 : plainName "com/example/surepath/surepath/TravelTime$Lattices" = true := by first | (simp [plainName, overriddenIn]; done) | decide +kernel
theorem own_d1_0 : decode prog_64_method_16_code 0 = .ok (.aload_n 0, 1) := by decide +kernel
theorem own_d1_1 : decode prog_64_method_16_code 1 = .ok (.arraylength, 1) := by decide +kernel
theorem own_d1_2 : decode prog_64_method_16_code 2 = .ok (.iconst 2, 1) := by decide +kernel
theorem own_d1_3 : decode prog_64_method_16_code 3 = .ok (.idiv, 1) := by decide +kernel
theorem own_d1_4 : decode prog_64_method_16_code 4 = .ok (.iconst 1, 1) := by decide +kernel
theorem own_d1_5 : decode prog_64_method_16_code 5 = .ok (.iadd, 1) := by decide +kernel
theorem own_d1_6 : decode prog_64_method_16_code 6 = .ok (.newarray .double, 2) := by decide +kernel
theorem own_d1_8 : decode prog_64_method_16_code 8 = .ok (.astore_n 1, 1) := by decide +kernel
theorem own_d1_9 : decode prog_64_method_16_code 9 = .ok (.iconst 0, 1) := by decide +kernel
theorem own_d1_10 : decode prog_64_method_16_code 10 = .ok (.istore_n 2, 1) := by decide +kernel
theorem own_d1_11 : decode prog_64_method_16_code 11 = .ok (.iload_n 2, 1) := by decide +kernel
theorem own_d1_12 : decode prog_64_method_16_code 12 = .ok (.aload_n 0, 1) := by decide +kernel
theorem own_d1_13 : decode prog_64_method_16_code 13 = .ok (.arraylength, 1) := by decide +kernel
theorem own_d1_14 : decode prog_64_method_16_code 14 = .ok (.if_icmp .ge 61, 3) := by decide +kernel
theorem own_d1_75 : decode prog_64_method_16_code 75 = .ok (.aload_n 1, 1) := by decide +kernel
theorem own_d1_76 : decode prog_64_method_16_code 76 = .ok (.areturn, 1) := by decide +kernel
theorem own_efh0 (m : MethodId) (r0 : Addr) : entryFrame m #[(.ref r0)] 3 = mkF m 0 #[.val (.ref r0), .unset, .unset] [] := by first | (simp [entryFrame, mkF, argsToLocals, Value.category]; done) | rfl
def own_Qh0 (Z : State) (r0 : Addr) (k_r0 : ClassId) (h0 : Heap) (n0 : Nat) (v : Option Value) (h : Heap) (L : List Loc) : Prop := ∃ (bn2 : Addr) (kn2 : ClassId), v = some (.ref bn2) ∧ Fr n0 L ∧ Keep h0 h [] ∧ h0.size ≤ bn2 ∧ Arv Z h bn2 kn2 .double (1 : Int32) [(.double 0)] (.double 0)
set_option maxRecDepth 65536 in
set_option maxHeartbeats 40000000 in
theorem own_rmh0 (l : Launch) (Z : State) (a0 : Array Value) (hw : ∀ d ∈ tables_1, d.before a0 Z = true) (ws : List Jvm.Cond) (r0 : Addr) (k_r0 : ClassId) (h0 : Heap) (n0 : Nat) (Z0 : n0 ≤ h0.size) (V_r0 : Arv Z h0 r0 k_r0 .double (0 : Int32) [] (.double 0)) :
    MetFree l (⟨"com/example/surepath/surepath/TravelTime$Lattices", "halved", "([D)[D"⟩ : MethodName) (head1 (Jvm.Cond.code (⟨"com/example/surepath/surepath/TravelTime$Lattices", "halved", "([D)[D"⟩ : MethodName) prog_64_method_16_code 3 (some (.array .double)) :: ws) ({ frames := 0, cells := 1, slots := 1, locals := 0 } : Room)) (fun a U => a = #[(.ref r0)] ∧ Z.Warmed39 U.vm ∧ U.heap = h0) (fun _ _ _ _ _ => True) (fun _ U o U' => ∃ v L, o = .returned v ∧ own_Qh0 Z r0 k_r0 h0 n0 v U'.heap L ∧ FrameEnd U o U' L ({ frames := 0, cells := 1, slots := 1, locals := 0 } : Room).cells ({ frames := 0, cells := 1, slots := 1, locals := 0 } : Room).slots) := by
  refine MetFree.of_bodySF (plainFor_of_name own_pn1) hisR ?_
  intro p e s m args below meth c s₁ Bd hml0 hP hK
  obtain ⟨rfl, hZ, hh⟩ := hP
  have hx := Bd.exec
  have hby := Bd.bytes
  have hml : c.maxLocals = 3 := hml0
  have hown : s.vm.findClass "com/example/surepath/surepath/TravelTime$Lattices" = some m.cls := findClass_of_methodNamed Bd.named
  have hnm := (name_of_methodNamed Bd.named Bd.method).1
  have X0 : Stand p l e ({ frames := 0, cells := 1, slots := 1, locals := 0 } : Room) s m #[(.ref r0)] below meth c s₁ [] 0 0 := Stand.of_body Bd
  have e0 : s₁.heap = h0 := by rw [← hh, Bd.state]; rfl
  have N0 := Fr.nil n0
  have Zr : h0.size ≤ h0.size := Nat.le_refl _
  have pre0 : ∀ t, Steps p.tables e below (s₁.setTop (mkF m 0 #[.val (.ref r0), .unset, .unset] [])) t → Steps p.tables e below (s₁.setTop (entryFrame m #[(.ref r0)] 3)) t := fun t k => castTop (own_efh0 m r0) k
  obtain ⟨clo1, Aro1, qo1, So1, No1, Ho1, Go1⟩ := id V_r0
  obtain ⟨Tn2, hn2, kn2, Xn2, en2, En2, An2, stn2⟩ := newP X0 hx hZ (own_W hw 1 rfl) e0 (g := (mkF m 6 #[.val (.ref r0), .unset, .unset] [(.int 1)])) rfl (hb hby own_d1_6) rfl (by decide) (cap := 1) (by decide) (by decide) (by decide) (by decide)
  obtain ⟨bn2, gn2⟩ : ∃ z, z = h0.size := ⟨_, rfl⟩
  rw [← gn2] at An2 stn2
  have g_bn2 : n0 ≤ bn2 := Nat.le_trans Z0 (Nat.le_of_eq gn2.symm)
  have sz_bn2 : h0.size ≤ bn2 := Nat.le_trans Zr (Nat.le_of_eq gn2.symm)
  have sz3 : h0.size ≤ hn2.size := Nat.le_trans Zr En2.1
  have V_bn2 : Arv Z hn2 bn2 kn2 .double (1 : Int32) [(.double 0)] (.double 0) := (Arv.new An2 (by decide)).pad (pad_rep [] (.double 0) 1)
  have F4 := (V_r0.ext En2)
  obtain ⟨clo5, Aro5, qo5, So5, No5, Ho5, Go5⟩ := id F4
  obtain ⟨fs, hr, hrun, hended, hW, hsame⟩ := Xn2.leave (v := some (.ref bn2)) (fun h => by rw [Bd.returns] at h; cases h)
  refine ⟨_, _, pre0 _ (?_), hrun, hended, _, _, rfl, ?_, ⟨_, rfl⟩, hW, hsame.mono (by decide) (by decide)⟩
  · show Steps p.tables e below (s₁.setTop (mkF m 0 #[.val (.ref r0), .unset, .unset] [])) _
    refine XS.aloadN X0.here hx rfl (hb hby own_d1_0) rfl rfl ?_
    refine X0.arraylength hx (by rw [e0]; exact Aro1.1) (State.isArrayOf_alike hZ.alike Aro1.2.1) (g := (mkF m 1 #[.val (.ref r0), .unset, .unset] [(.ref r0)])) rfl rfl (hb hby own_d1_1) _ ?_
    rw [len_of So1 No1]
    show Steps p.tables e below (s₁.setTop (mkF m 2 #[.val (.ref r0), .unset, .unset] [(.int 0)])) _
    refine XS.iconst X0.here hx rfl (hb hby own_d1_2) ?_
    refine XS.idiv X0.here hx rfl (hb hby own_d1_3) rfl (by decide) ?_
    refine XS.iconst X0.here hx rfl (hb hby own_d1_4) ?_
    refine XS.iadd X0.here hx rfl (hb hby own_d1_5) rfl ?_
    show Steps p.tables e below (s₁.setTop (mkF m 6 #[.val (.ref r0), .unset, .unset] [(.int 1)])) _
    refine stn2 _ ?_
    refine XS.astoreN Xn2.here hx rfl (hb hby own_d1_8) rfl rfl (l' := #[.val (.ref r0), .val (.ref bn2), .unset]) rfl ?_
    refine XS.iconst Xn2.here hx rfl (hb hby own_d1_9) ?_
    refine XS.istoreN Xn2.here hx rfl (hb hby own_d1_10) rfl (l' := #[.val (.ref r0), .val (.ref bn2), .val (.int 0)]) rfl ?_
    refine XS.iloadN Xn2.here hx rfl (hb hby own_d1_11) rfl ?_
    refine XS.aloadN Xn2.here hx rfl (hb hby own_d1_12) rfl rfl ?_
    refine Xn2.arraylength hx (by rw [en2]; exact Aro5.1) (State.isArrayOf_alike hZ.alike Aro5.2.1) (g := (mkF m 13 #[.val (.ref r0), .val (.ref bn2), .val (.int 0)] [(.ref r0), (.int 0)])) rfl rfl (hb hby own_d1_13) _ ?_
    rw [len_of So5 No5]
    show Steps p.tables e below (Tn2.setTop (mkF m 14 #[.val (.ref r0), .val (.ref bn2), .val (.int 0)] [(.int 0), (.int 0)])) _
    refine XS.icmpYes Xn2.here hx rfl (pc0 := 14) (pc' := 75) rfl (hb hby own_d1_14) rfl (XT.ii_ge_t (by decide : ¬ ((0 : Int32) < (0 : Int32)))) (by decide) (by decide) ?_
    refine XS.aloadN Xn2.here hx rfl (hb hby own_d1_75) rfl rfl ?_
    show Steps p.tables e below (Tn2.setTop (mkF m 76 #[.val (.ref r0), .val (.ref bn2), .val (.int 0)] [(.ref bn2)])) _
    jvm_step Xn2.here [Xn2.here.top, hx, (hb hby own_d1_76), Xn2.method', Bd.returns, Value.isRef, FieldType.isReference]
    first | (intro acts; rw [hr _ acts rfl rfl rfl]) | rw [hr _ _ rfl rfl rfl]
    exact Steps.refl _
  · show own_Qh0 Z r0 k_r0 h0 n0 _ Tn2.heap _
    rw [en2]
    exact ⟨bn2, kn2, rfl, N0, ((Keep.refl h0 []).ext En2), sz_bn2, V_bn2⟩
theorem own_d1_17 : decode prog_64_method_16_code 17 = .ok (.iload_n 2, 1) := by decide +kernel
theorem own_d1_18 : decode prog_64_method_16_code 18 = .ok (.iconst 2, 1) := by decide +kernel
theorem own_d1_19 : decode prog_64_method_16_code 19 = .ok (.irem, 1) := by decide +kernel
theorem own_d1_20 : decode prog_64_method_16_code 20 = .ok (.ifCond .ne 17, 3) := by decide +kernel
theorem own_d1_23 : decode prog_64_method_16_code 23 = .ok (.aload_n 1, 1) := by decide +kernel
theorem own_d1_24 : decode prog_64_method_16_code 24 = .ok (.iload_n 2, 1) := by decide +kernel
theorem own_d1_25 : decode prog_64_method_16_code 25 = .ok (.iconst 2, 1) := by decide +kernel
theorem own_d1_26 : decode prog_64_method_16_code 26 = .ok (.idiv, 1) := by decide +kernel
theorem own_d1_27 : decode prog_64_method_16_code 27 = .ok (.dup2, 1) := by decide +kernel
theorem own_d1_28 : decode prog_64_method_16_code 28 = .ok (.daload, 1) := by decide +kernel
theorem own_d1_29 : decode prog_64_method_16_code 29 = .ok (.aload_n 0, 1) := by decide +kernel
theorem own_d1_30 : decode prog_64_method_16_code 30 = .ok (.iload_n 2, 1) := by decide +kernel
theorem own_d1_31 : decode prog_64_method_16_code 31 = .ok (.daload, 1) := by decide +kernel
theorem own_d1_32 : decode prog_64_method_16_code 32 = .ok (.dadd, 1) := by decide +kernel
theorem own_d1_33 : decode prog_64_method_16_code 33 = .ok (.dastore, 1) := by decide +kernel
theorem own_d1_34 : decode prog_64_method_16_code 34 = .ok (.goto 35, 3) := by decide +kernel
theorem own_d1_69 : decode prog_64_method_16_code 69 = .ok (.iinc 2 1, 3) := by decide +kernel
theorem own_d1_72 : decode prog_64_method_16_code 72 = .ok (.goto (-61), 3) := by decide +kernel
theorem own_efh1 (m : MethodId) (r0 : Addr) : entryFrame m #[(.ref r0)] 3 = mkF m 0 #[.val (.ref r0), .unset, .unset] [] := by first | (simp [entryFrame, mkF, argsToLocals, Value.category]; done) | rfl
def own_Qh1 (Z : State) (r0 : Addr) (k_r0 : ClassId) (x_r0_0 : UInt64) (h0 : Heap) (n0 : Nat) (v : Option Value) (h : Heap) (L : List Loc) : Prop := ∃ (bn2 : Addr) (kn2 : ClassId), v = some (.ref bn2) ∧ Fr n0 L ∧ Keep h0 h [] ∧ h0.size ≤ bn2 ∧ Arv Z h bn2 kn2 .double (1 : Int32) [(.double (FP.dadd (0 : UInt64) x_r0_0))] (.double 0)
set_option maxRecDepth 65536 in
set_option maxHeartbeats 40000000 in
theorem own_rmh1 (l : Launch) (Z : State) (a0 : Array Value) (hw : ∀ d ∈ tables_1, d.before a0 Z = true) (ws : List Jvm.Cond) (r0 : Addr) (k_r0 : ClassId) (x_r0_0 : UInt64) (h0 : Heap) (n0 : Nat) (Z0 : n0 ≤ h0.size) (V_r0 : Arv Z h0 r0 k_r0 .double (1 : Int32) [(.double x_r0_0)] (.double 0)) (nn32 : NoNaN64 (FP.dadd (0 : UInt64) x_r0_0)) :
    MetFree l (⟨"com/example/surepath/surepath/TravelTime$Lattices", "halved", "([D)[D"⟩ : MethodName) (head1 (Jvm.Cond.code (⟨"com/example/surepath/surepath/TravelTime$Lattices", "halved", "([D)[D"⟩ : MethodName) prog_64_method_16_code 3 (some (.array .double)) :: ws) ({ frames := 0, cells := 1, slots := 1, locals := 0 } : Room)) (fun a U => a = #[(.ref r0)] ∧ Z.Warmed39 U.vm ∧ U.heap = h0) (fun _ _ _ _ _ => True) (fun _ U o U' => ∃ v L, o = .returned v ∧ own_Qh1 Z r0 k_r0 x_r0_0 h0 n0 v U'.heap L ∧ FrameEnd U o U' L ({ frames := 0, cells := 1, slots := 1, locals := 0 } : Room).cells ({ frames := 0, cells := 1, slots := 1, locals := 0 } : Room).slots) := by
  refine MetFree.of_bodySF (plainFor_of_name own_pn1) hisR ?_
  intro p e s m args below meth c s₁ Bd hml0 hP hK
  obtain ⟨rfl, hZ, hh⟩ := hP
  have hx := Bd.exec
  have hby := Bd.bytes
  have hml : c.maxLocals = 3 := hml0
  have hown : s.vm.findClass "com/example/surepath/surepath/TravelTime$Lattices" = some m.cls := findClass_of_methodNamed Bd.named
  have hnm := (name_of_methodNamed Bd.named Bd.method).1
  have X0 : Stand p l e ({ frames := 0, cells := 1, slots := 1, locals := 0 } : Room) s m #[(.ref r0)] below meth c s₁ [] 0 0 := Stand.of_body Bd
  have e0 : s₁.heap = h0 := by rw [← hh, Bd.state]; rfl
  have N0 := Fr.nil n0
  have Zr : h0.size ≤ h0.size := Nat.le_refl _
  have pre0 : ∀ t, Steps p.tables e below (s₁.setTop (mkF m 0 #[.val (.ref r0), .unset, .unset] [])) t → Steps p.tables e below (s₁.setTop (entryFrame m #[(.ref r0)] 3)) t := fun t k => castTop (own_efh1 m r0) k
  obtain ⟨clo1, Aro1, qo1, So1, No1, Ho1, Go1⟩ := id V_r0
  obtain ⟨Tn2, hn2, kn2, Xn2, en2, En2, An2, stn2⟩ := newP X0 hx hZ (own_W hw 1 rfl) e0 (g := (mkF m 6 #[.val (.ref r0), .unset, .unset] [(.int 1)])) rfl (hb hby own_d1_6) rfl (by decide) (cap := 1) (by decide) (by decide) (by decide) (by decide)
  obtain ⟨bn2, gn2⟩ : ∃ z, z = h0.size := ⟨_, rfl⟩
  rw [← gn2] at An2 stn2
  have g_bn2 : n0 ≤ bn2 := Nat.le_trans Z0 (Nat.le_of_eq gn2.symm)
  have sz_bn2 : h0.size ≤ bn2 := Nat.le_trans Zr (Nat.le_of_eq gn2.symm)
  have sz3 : h0.size ≤ hn2.size := Nat.le_trans Zr En2.1
  have V_bn2 : Arv Z hn2 bn2 kn2 .double (1 : Int32) [(.double 0)] (.double 0) := (Arv.new An2 (by decide)).pad (pad_rep [] (.double 0) 1)
  have F4 := (V_r0.ext En2)
  obtain ⟨clo5, Aro5, qo5, So5, No5, Ho5, Go5⟩ := id F4
  obtain ⟨clo6, Aro6, qo6, So6, No6, Ho6, Go6⟩ := id V_bn2
  have hi7 := inb_of (j := (0 : Int32)) So6 ⟨by decide, by decide⟩
  have ha8 : _ = some (Value.double (0 : UInt64)) := Ho6.at hi7 rfl
  have hi9 := inb_of (j := (0 : Int32)) So5 ⟨by decide, by decide⟩
  have ha10 : _ = some (Value.double x_r0_0) := Ho5.at hi9 rfl
  obtain ⟨To11, ho11, Xo11, eo11, Wo11, sto11⟩ := stD Xn2 hx hZ en2 Aro6 (j := (0 : Int32)) hi7 (g := (mkF m 33 #[.val (.ref r0), .val (.ref bn2), .val (.int 0)] [(.double (FP.dadd (0 : UInt64) x_r0_0)), (.int 0), (.ref bn2)])) rfl rfl (hb hby own_d1_33)
  have Vwo11 : Arv Z ho11 bn2 kn2 .double (1 : Int32) [(.double (FP.dadd (0 : UInt64) x_r0_0))] (.double 0) := Arv.set Aro6 qo6 So6 No6 Ho6 Go6 rfl Wo11 0 rfl (Nat.le_of_ble_eq_true rfl)
  have sz12 : h0.size ≤ ho11.size := Nat.le_trans sz3 (Nat.le_of_eq Wo11.size.symm)
  have Nfo11 := Fr.snoc Xo11 N0 g_bn2
  have ne13 : bn2 ≠ r0 := (Ne.symm (Nat.ne_of_lt (Nat.lt_of_lt_of_le V_r0.lt (Nat.le_of_eq gn2.symm))))
  have F14 := (F4.other Wo11 (Ne.symm ne13))
  obtain ⟨clo15, Aro15, qo15, So15, No15, Ho15, Go15⟩ := id F14
  obtain ⟨fs, hr, hrun, hended, hW, hsame⟩ := Xo11.leave (v := some (.ref bn2)) (fun h => by rw [Bd.returns] at h; cases h)
  refine ⟨_, _, pre0 _ (?_), hrun, hended, _, _, rfl, ?_, ⟨_, rfl⟩, hW, hsame.mono (by decide) (by decide)⟩
  · show Steps p.tables e below (s₁.setTop (mkF m 0 #[.val (.ref r0), .unset, .unset] [])) _
    refine XS.aloadN X0.here hx rfl (hb hby own_d1_0) rfl rfl ?_
    refine X0.arraylength hx (by rw [e0]; exact Aro1.1) (State.isArrayOf_alike hZ.alike Aro1.2.1) (g := (mkF m 1 #[.val (.ref r0), .unset, .unset] [(.ref r0)])) rfl rfl (hb hby own_d1_1) _ ?_
    rw [len_of So1 No1]
    show Steps p.tables e below (s₁.setTop (mkF m 2 #[.val (.ref r0), .unset, .unset] [(.int 1)])) _
    refine XS.iconst X0.here hx rfl (hb hby own_d1_2) ?_
    refine XS.idiv X0.here hx rfl (hb hby own_d1_3) rfl (by decide) ?_
    refine XS.iconst X0.here hx rfl (hb hby own_d1_4) ?_
    refine XS.iadd X0.here hx rfl (hb hby own_d1_5) rfl ?_
    show Steps p.tables e below (s₁.setTop (mkF m 6 #[.val (.ref r0), .unset, .unset] [(.int 1)])) _
    refine stn2 _ ?_
    refine XS.astoreN Xn2.here hx rfl (hb hby own_d1_8) rfl rfl (l' := #[.val (.ref r0), .val (.ref bn2), .unset]) rfl ?_
    refine XS.iconst Xn2.here hx rfl (hb hby own_d1_9) ?_
    refine XS.istoreN Xn2.here hx rfl (hb hby own_d1_10) rfl (l' := #[.val (.ref r0), .val (.ref bn2), .val (.int 0)]) rfl ?_
    refine XS.iloadN Xn2.here hx rfl (hb hby own_d1_11) rfl ?_
    refine XS.aloadN Xn2.here hx rfl (hb hby own_d1_12) rfl rfl ?_
    refine Xn2.arraylength hx (by rw [en2]; exact Aro5.1) (State.isArrayOf_alike hZ.alike Aro5.2.1) (g := (mkF m 13 #[.val (.ref r0), .val (.ref bn2), .val (.int 0)] [(.ref r0), (.int 0)])) rfl rfl (hb hby own_d1_13) _ ?_
    rw [len_of So5 No5]
    show Steps p.tables e below (Tn2.setTop (mkF m 14 #[.val (.ref r0), .val (.ref bn2), .val (.int 0)] [(.int 1), (.int 0)])) _
    refine XS.icmpNo Xn2.here hx rfl (hb hby own_d1_14) rfl (XT.ii_ge_f (by decide : (0 : Int32) < (1 : Int32))) ?_
    refine XS.iloadN Xn2.here hx rfl (hb hby own_d1_17) rfl ?_
    refine XS.iconst Xn2.here hx rfl (hb hby own_d1_18) ?_
    refine XS.irem Xn2.here hx rfl (hb hby own_d1_19) rfl (by decide) ?_
    show Steps p.tables e below (Tn2.setTop (mkF m 20 #[.val (.ref r0), .val (.ref bn2), .val (.int 0)] [(.int 0)])) _
    refine XS.ifNo Xn2.here hx rfl (hb hby own_d1_20) rfl (XT.i0_ne_f (by decide : (0 : Int32) = (0 : Int32))) ?_
    refine XS.aloadN Xn2.here hx rfl (hb hby own_d1_23) rfl rfl ?_
    refine XS.iloadN Xn2.here hx rfl (hb hby own_d1_24) rfl ?_
    refine XS.iconst Xn2.here hx rfl (hb hby own_d1_25) ?_
    refine XS.idiv Xn2.here hx rfl (hb hby own_d1_26) rfl (by decide) ?_
    show Steps p.tables e below (Tn2.setTop (mkF m 27 #[.val (.ref r0), .val (.ref bn2), .val (.int 0)] [(.int 0), (.ref bn2)])) _
    refine XT.dup2 Xn2.here hx rfl (hb hby own_d1_27) rfl rfl rfl ?_
    refine Xn2.daload hx (j := (0 : Int32)) (v := (.double 0)) (by rw [en2]; exact Aro6.1) (State.isArrayOf_alike hZ.alike Aro6.2.1) Aro6.2.2 hi7 ha8 (g := (mkF m 28 #[.val (.ref r0), .val (.ref bn2), .val (.int 0)] [(.int 0), (.ref bn2), (.int 0), (.ref bn2)])) rfl rfl (hb hby own_d1_28) _ ?_
    refine XS.aloadN Xn2.here hx rfl (hb hby own_d1_29) rfl rfl ?_
    refine XS.iloadN Xn2.here hx rfl (hb hby own_d1_30) rfl ?_
    refine Xn2.daload hx (j := (0 : Int32)) (v := (.double x_r0_0)) (by rw [en2]; exact Aro5.1) (State.isArrayOf_alike hZ.alike Aro5.2.1) Aro5.2.2 hi9 ha10 (g := (mkF m 31 #[.val (.ref r0), .val (.ref bn2), .val (.int 0)] [(.int 0), (.ref r0), (.double 0), (.int 0), (.ref bn2)])) rfl rfl (hb hby own_d1_31) _ ?_
    show Steps p.tables e below (Tn2.setTop (mkF m 32 #[.val (.ref r0), .val (.ref bn2), .val (.int 0)] [(.double x_r0_0), (.double 0), (.int 0), (.ref bn2)])) _
    refine XS.daddS Xn2.here hx rfl (hb hby own_d1_32) rfl nn32 rfl ?_
    refine sto11 _ ?_
    refine XS.goto Xo11.here hx rfl (pc0 := 34) (pc' := 69) rfl (hb hby own_d1_34) (by decide) (by decide) ?_
    refine XS.iinc Xo11.here hx rfl (hb hby own_d1_69) rfl (l' := #[.val (.ref r0), .val (.ref bn2), .val (.int 1)]) rfl ?_
    refine XS.goto Xo11.here hx rfl (pc0 := 72) (pc' := 11) rfl (hb hby own_d1_72) (by decide) (by decide) ?_
    refine XS.iloadN Xo11.here hx rfl (hb hby own_d1_11) rfl ?_
    refine XS.aloadN Xo11.here hx rfl (hb hby own_d1_12) rfl rfl ?_
    refine Xo11.arraylength hx (by rw [eo11]; exact Aro15.1) (State.isArrayOf_alike hZ.alike Aro15.2.1) (g := (mkF m 13 #[.val (.ref r0), .val (.ref bn2), .val (.int 1)] [(.ref r0), (.int 1)])) rfl rfl (hb hby own_d1_13) _ ?_
    rw [len_of So15 No15]
    show Steps p.tables e below (To11.setTop (mkF m 14 #[.val (.ref r0), .val (.ref bn2), .val (.int 1)] [(.int 1), (.int 1)])) _
    refine XS.icmpYes Xo11.here hx rfl (pc0 := 14) (pc' := 75) rfl (hb hby own_d1_14) rfl (XT.ii_ge_t (by decide : ¬ ((1 : Int32) < (1 : Int32)))) (by decide) (by decide) ?_
    refine XS.aloadN Xo11.here hx rfl (hb hby own_d1_75) rfl rfl ?_
    show Steps p.tables e below (To11.setTop (mkF m 76 #[.val (.ref r0), .val (.ref bn2), .val (.int 1)] [(.ref bn2)])) _
    jvm_step Xo11.here [Xo11.here.top, hx, (hb hby own_d1_76), Xo11.method', Bd.returns, Value.isRef, FieldType.isReference]
    first | (intro acts; rw [hr _ acts rfl rfl rfl]) | rw [hr _ _ rfl rfl rfl]
    exact Steps.refl _
  · show own_Qh1 Z r0 k_r0 x_r0_0 h0 n0 _ To11.heap _
    rw [eo11]
    exact ⟨bn2, kn2, rfl, Nfo11, (((Keep.refl h0 []).ext En2).wr Wo11 (Or.inr sz_bn2)), sz_bn2, Vwo11⟩
theorem own_d1_37 : decode prog_64_method_16_code 37 = .ok (.aload_n 1, 1) := by decide +kernel
theorem own_d1_38 : decode prog_64_method_16_code 38 = .ok (.iload_n 2, 1) := by decide +kernel
theorem own_d1_39 : decode prog_64_method_16_code 39 = .ok (.iconst 2, 1) := by decide +kernel
theorem own_d1_40 : decode prog_64_method_16_code 40 = .ok (.idiv, 1) := by decide +kernel
theorem own_d1_41 : decode prog_64_method_16_code 41 = .ok (.dup2, 1) := by decide +kernel
theorem own_d1_42 : decode prog_64_method_16_code 42 = .ok (.daload, 1) := by decide +kernel
theorem own_d1_43 : decode prog_64_method_16_code 43 = .ok (.aload_n 0, 1) := by decide +kernel
theorem own_d1_44 : decode prog_64_method_16_code 44 = .ok (.iload_n 2, 1) := by decide +kernel
theorem own_d1_45 : decode prog_64_method_16_code 45 = .ok (.daload, 1) := by decide +kernel
theorem own_d1_46 : decode prog_64_method_16_code 46 = .ok (.ldc2_w 103, 3) := by decide +kernel
theorem own_d1_49 : decode prog_64_method_16_code 49 = .ok (.ddiv, 1) := by decide +kernel
theorem own_d1_50 : decode prog_64_method_16_code 50 = .ok (.dadd, 1) := by decide +kernel
theorem own_d1_51 : decode prog_64_method_16_code 51 = .ok (.dastore, 1) := by decide +kernel
theorem own_d1_52 : decode prog_64_method_16_code 52 = .ok (.aload_n 1, 1) := by decide +kernel
theorem own_d1_53 : decode prog_64_method_16_code 53 = .ok (.iload_n 2, 1) := by decide +kernel
theorem own_d1_54 : decode prog_64_method_16_code 54 = .ok (.iconst 2, 1) := by decide +kernel
theorem own_d1_55 : decode prog_64_method_16_code 55 = .ok (.idiv, 1) := by decide +kernel
theorem own_d1_56 : decode prog_64_method_16_code 56 = .ok (.iconst 1, 1) := by decide +kernel
theorem own_d1_57 : decode prog_64_method_16_code 57 = .ok (.iadd, 1) := by decide +kernel
theorem own_d1_58 : decode prog_64_method_16_code 58 = .ok (.dup2, 1) := by decide +kernel
theorem own_d1_59 : decode prog_64_method_16_code 59 = .ok (.daload, 1) := by decide +kernel
theorem own_d1_60 : decode prog_64_method_16_code 60 = .ok (.aload_n 0, 1) := by decide +kernel
theorem own_d1_61 : decode prog_64_method_16_code 61 = .ok (.iload_n 2, 1) := by decide +kernel
theorem own_d1_62 : decode prog_64_method_16_code 62 = .ok (.daload, 1) := by decide +kernel
theorem own_d1_63 : decode prog_64_method_16_code 63 = .ok (.ldc2_w 103, 3) := by decide +kernel
theorem own_d1_66 : decode prog_64_method_16_code 66 = .ok (.ddiv, 1) := by decide +kernel
theorem own_d1_67 : decode prog_64_method_16_code 67 = .ok (.dadd, 1) := by decide +kernel
theorem own_d1_68 : decode prog_64_method_16_code 68 = .ok (.dastore, 1) := by decide +kernel
def own_vh2_0 (x_r0_0 : UInt64) (x_r0_1 : UInt64) : UInt64 := (FP.dadd (FP.dadd (0 : UInt64) x_r0_0) (FP.ddiv x_r0_1 (4611686018427387904 : UInt64)))
def own_vh2_1 (x_r0_1 : UInt64) : UInt64 := (FP.dadd (0 : UInt64) (FP.ddiv x_r0_1 (4611686018427387904 : UInt64)))
theorem own_efh2 (m : MethodId) (r0 : Addr) : entryFrame m #[(.ref r0)] 3 = mkF m 0 #[.val (.ref r0), .unset, .unset] [] := by first | (simp [entryFrame, mkF, argsToLocals, Value.category]; done) | rfl
def own_Qh2 (Z : State) (r0 : Addr) (k_r0 : ClassId) (x_r0_0 : UInt64) (x_r0_1 : UInt64) (h0 : Heap) (n0 : Nat) (v : Option Value) (h : Heap) (L : List Loc) : Prop := ∃ (bn2 : Addr) (kn2 : ClassId), v = some (.ref bn2) ∧ Fr n0 L ∧ Keep h0 h [] ∧ h0.size ≤ bn2 ∧ Arv Z h bn2 kn2 .double (2 : Int32) [(.double (own_vh2_0 x_r0_0 x_r0_1)), (.double (own_vh2_1 x_r0_1))] (.double 0)
set_option maxRecDepth 65536 in
set_option maxHeartbeats 40000000 in
theorem own_rmh2 (l : Launch) (Z : State) (a0 : Array Value) (hw : ∀ d ∈ tables_1, d.before a0 Z = true) (ws : List Jvm.Cond) (r0 : Addr) (k_r0 : ClassId) (x_r0_0 : UInt64) (x_r0_1 : UInt64) (h0 : Heap) (n0 : Nat) (Z0 : n0 ≤ h0.size) (V_r0 : Arv Z h0 r0 k_r0 .double (2 : Int32) [(.double x_r0_0), (.double x_r0_1)] (.double 0)) (nn32 : NoNaN64 (FP.dadd (0 : UInt64) x_r0_0)) (nn49 : NoNaN64 (FP.ddiv x_r0_1 (4611686018427387904 : UInt64))) (nn50 : NoNaN64 (FP.dadd (FP.dadd (0 : UInt64) x_r0_0) (FP.ddiv x_r0_1 (4611686018427387904 : UInt64)))) (nn67 : NoNaN64 (FP.dadd (0 : UInt64) (FP.ddiv x_r0_1 (4611686018427387904 : UInt64)))) :
    MetFree l (⟨"com/example/surepath/surepath/TravelTime$Lattices", "halved", "([D)[D"⟩ : MethodName) (head1 (Jvm.Cond.code (⟨"com/example/surepath/surepath/TravelTime$Lattices", "halved", "([D)[D"⟩ : MethodName) prog_64_method_16_code 3 (some (.array .double)) :: ws) ({ frames := 0, cells := 1, slots := 2, locals := 0 } : Room)) (fun a U => a = #[(.ref r0)] ∧ Z.Warmed39 U.vm ∧ U.heap = h0) (fun _ _ _ _ _ => True) (fun _ U o U' => ∃ v L, o = .returned v ∧ own_Qh2 Z r0 k_r0 x_r0_0 x_r0_1 h0 n0 v U'.heap L ∧ FrameEnd U o U' L ({ frames := 0, cells := 1, slots := 2, locals := 0 } : Room).cells ({ frames := 0, cells := 1, slots := 2, locals := 0 } : Room).slots) := by
  refine MetFree.of_bodySF (plainFor_of_name own_pn1) hisR ?_
  intro p e s m args below meth c s₁ Bd hml0 hP hK
  obtain ⟨rfl, hZ, hh⟩ := hP
  have hx := Bd.exec
  have hby := Bd.bytes
  have hml : c.maxLocals = 3 := hml0
  have hown : s.vm.findClass "com/example/surepath/surepath/TravelTime$Lattices" = some m.cls := findClass_of_methodNamed Bd.named
  have hnm := (name_of_methodNamed Bd.named Bd.method).1
  have X0 : Stand p l e ({ frames := 0, cells := 1, slots := 2, locals := 0 } : Room) s m #[(.ref r0)] below meth c s₁ [] 0 0 := Stand.of_body Bd
  have e0 : s₁.heap = h0 := by rw [← hh, Bd.state]; rfl
  have N0 := Fr.nil n0
  have Zr : h0.size ≤ h0.size := Nat.le_refl _
  have pre0 : ∀ t, Steps p.tables e below (s₁.setTop (mkF m 0 #[.val (.ref r0), .unset, .unset] [])) t → Steps p.tables e below (s₁.setTop (entryFrame m #[(.ref r0)] 3)) t := fun t k => castTop (own_efh2 m r0) k
  obtain ⟨clo1, Aro1, qo1, So1, No1, Ho1, Go1⟩ := id V_r0
  obtain ⟨Tn2, hn2, kn2, Xn2, en2, En2, An2, stn2⟩ := newP X0 hx hZ (own_W hw 1 rfl) e0 (g := (mkF m 6 #[.val (.ref r0), .unset, .unset] [(.int 2)])) rfl (hb hby own_d1_6) rfl (by decide) (cap := 2) (by decide) (by decide) (by decide) (by decide)
  obtain ⟨bn2, gn2⟩ : ∃ z, z = h0.size := ⟨_, rfl⟩
  rw [← gn2] at An2 stn2
  have g_bn2 : n0 ≤ bn2 := Nat.le_trans Z0 (Nat.le_of_eq gn2.symm)
  have sz_bn2 : h0.size ≤ bn2 := Nat.le_trans Zr (Nat.le_of_eq gn2.symm)
  have sz3 : h0.size ≤ hn2.size := Nat.le_trans Zr En2.1
  have V_bn2 : Arv Z hn2 bn2 kn2 .double (2 : Int32) [(.double 0), (.double 0)] (.double 0) := (Arv.new An2 (by decide)).pad (pad_rep [] (.double 0) 2)
  have F4 := (V_r0.ext En2)
  obtain ⟨clo5, Aro5, qo5, So5, No5, Ho5, Go5⟩ := id F4
  obtain ⟨clo6, Aro6, qo6, So6, No6, Ho6, Go6⟩ := id V_bn2
  have hi7 := inb_of (j := (0 : Int32)) So6 ⟨by decide, by decide⟩
  have ha8 : _ = some (Value.double (0 : UInt64)) := Ho6.at hi7 rfl
  have hi9 := inb_of (j := (0 : Int32)) So5 ⟨by decide, by decide⟩
  have ha10 : _ = some (Value.double x_r0_0) := Ho5.at hi9 rfl
  obtain ⟨To11, ho11, Xo11, eo11, Wo11, sto11⟩ := stD Xn2 hx hZ en2 Aro6 (j := (0 : Int32)) hi7 (g := (mkF m 33 #[.val (.ref r0), .val (.ref bn2), .val (.int 0)] [(.double (FP.dadd (0 : UInt64) x_r0_0)), (.int 0), (.ref bn2)])) rfl rfl (hb hby own_d1_33)
  have Vwo11 : Arv Z ho11 bn2 kn2 .double (2 : Int32) [(.double (FP.dadd (0 : UInt64) x_r0_0)), (.double 0)] (.double 0) := Arv.set Aro6 qo6 So6 No6 Ho6 Go6 rfl Wo11 0 rfl (Nat.le_of_ble_eq_true rfl)
  have sz12 : h0.size ≤ ho11.size := Nat.le_trans sz3 (Nat.le_of_eq Wo11.size.symm)
  have Nfo11 := Fr.snoc Xo11 N0 g_bn2
  have ne13 : bn2 ≠ r0 := (Ne.symm (Nat.ne_of_lt (Nat.lt_of_lt_of_le V_r0.lt (Nat.le_of_eq gn2.symm))))
  have F14 := (F4.other Wo11 (Ne.symm ne13))
  obtain ⟨clo15, Aro15, qo15, So15, No15, Ho15, Go15⟩ := id F14
  obtain ⟨clo16, Aro16, qo16, So16, No16, Ho16, Go16⟩ := id Vwo11
  have hi17 := inb_of (j := (0 : Int32)) So16 ⟨by decide, by decide⟩
  have ha18 : _ = some (Value.double (FP.dadd (0 : UInt64) x_r0_0)) := Ho16.at hi17 rfl
  have hi19 := inb_of (j := (1 : Int32)) So15 ⟨by decide, by decide⟩
  have ha20 : _ = some (Value.double x_r0_1) := Ho15.at hi19 rfl
  obtain ⟨To21, ho21, Xo21, eo21, Wo21, sto21⟩ := stD Xo11 hx hZ eo11 Aro16 (j := (0 : Int32)) hi17 (g := (mkF m 51 #[.val (.ref r0), .val (.ref bn2), .val (.int 1)] [(.double (FP.dadd (FP.dadd (0 : UInt64) x_r0_0) (FP.ddiv x_r0_1 (4611686018427387904 : UInt64)))), (.int 0), (.ref bn2)])) rfl rfl (hb hby own_d1_51)
  have Vwo21 : Arv Z ho21 bn2 kn2 .double (2 : Int32) [(.double (own_vh2_0 x_r0_0 x_r0_1)), (.double 0)] (.double 0) := Arv.set Aro16 qo16 So16 No16 Ho16 Go16 rfl Wo21 0 rfl (Nat.le_of_ble_eq_true rfl)
  have sz22 : h0.size ≤ ho21.size := Nat.le_trans sz12 (Nat.le_of_eq Wo21.size.symm)
  have Nfo21 := Fr.snoc Xo21 Nfo11 g_bn2
  obtain ⟨clo23, Aro23, qo23, So23, No23, Ho23, Go23⟩ := id Vwo21
  have hi24 := inb_of (j := (1 : Int32)) So23 ⟨by decide, by decide⟩
  have ha25 : _ = some (Value.double (0 : UInt64)) := Ho23.at hi24 rfl
  have F26 := (F14.other Wo21 (Ne.symm ne13))
  obtain ⟨clo27, Aro27, qo27, So27, No27, Ho27, Go27⟩ := id F26
  have hi28 := inb_of (j := (1 : Int32)) So27 ⟨by decide, by decide⟩
  have ha29 : _ = some (Value.double x_r0_1) := Ho27.at hi28 rfl
  obtain ⟨To30, ho30, Xo30, eo30, Wo30, sto30⟩ := stD Xo21 hx hZ eo21 Aro23 (j := (1 : Int32)) hi24 (g := (mkF m 68 #[.val (.ref r0), .val (.ref bn2), .val (.int 1)] [(.double (FP.dadd (0 : UInt64) (FP.ddiv x_r0_1 (4611686018427387904 : UInt64)))), (.int 1), (.ref bn2)])) rfl rfl (hb hby own_d1_68)
  have Vwo30 : Arv Z ho30 bn2 kn2 .double (2 : Int32) [(.double (own_vh2_0 x_r0_0 x_r0_1)), (.double (own_vh2_1 x_r0_1))] (.double 0) := Arv.set Aro23 qo23 So23 No23 Ho23 Go23 rfl Wo30 1 rfl (Nat.le_of_ble_eq_true rfl)
  have sz31 : h0.size ≤ ho30.size := Nat.le_trans sz22 (Nat.le_of_eq Wo30.size.symm)
  have Nfo30 := Fr.snoc Xo30 Nfo21 g_bn2
  have F32 := (F26.other Wo30 (Ne.symm ne13))
  obtain ⟨clo33, Aro33, qo33, So33, No33, Ho33, Go33⟩ := id F32
  obtain ⟨fs, hr, hrun, hended, hW, hsame⟩ := Xo30.leave (v := some (.ref bn2)) (fun h => by rw [Bd.returns] at h; cases h)
  refine ⟨_, _, pre0 _ (?_), hrun, hended, _, _, rfl, ?_, ⟨_, rfl⟩, hW, hsame.mono (by decide) (by decide)⟩
  · show Steps p.tables e below (s₁.setTop (mkF m 0 #[.val (.ref r0), .unset, .unset] [])) _
    refine XS.aloadN X0.here hx rfl (hb hby own_d1_0) rfl rfl ?_
    refine X0.arraylength hx (by rw [e0]; exact Aro1.1) (State.isArrayOf_alike hZ.alike Aro1.2.1) (g := (mkF m 1 #[.val (.ref r0), .unset, .unset] [(.ref r0)])) rfl rfl (hb hby own_d1_1) _ ?_
    rw [len_of So1 No1]
    show Steps p.tables e below (s₁.setTop (mkF m 2 #[.val (.ref r0), .unset, .unset] [(.int 2)])) _
    refine XS.iconst X0.here hx rfl (hb hby own_d1_2) ?_
    refine XS.idiv X0.here hx rfl (hb hby own_d1_3) rfl (by decide) ?_
    refine XS.iconst X0.here hx rfl (hb hby own_d1_4) ?_
    refine XS.iadd X0.here hx rfl (hb hby own_d1_5) rfl ?_
    show Steps p.tables e below (s₁.setTop (mkF m 6 #[.val (.ref r0), .unset, .unset] [(.int 2)])) _
    refine stn2 _ ?_
    refine XS.astoreN Xn2.here hx rfl (hb hby own_d1_8) rfl rfl (l' := #[.val (.ref r0), .val (.ref bn2), .unset]) rfl ?_
    refine XS.iconst Xn2.here hx rfl (hb hby own_d1_9) ?_
    refine XS.istoreN Xn2.here hx rfl (hb hby own_d1_10) rfl (l' := #[.val (.ref r0), .val (.ref bn2), .val (.int 0)]) rfl ?_
    refine XS.iloadN Xn2.here hx rfl (hb hby own_d1_11) rfl ?_
    refine XS.aloadN Xn2.here hx rfl (hb hby own_d1_12) rfl rfl ?_
    refine Xn2.arraylength hx (by rw [en2]; exact Aro5.1) (State.isArrayOf_alike hZ.alike Aro5.2.1) (g := (mkF m 13 #[.val (.ref r0), .val (.ref bn2), .val (.int 0)] [(.ref r0), (.int 0)])) rfl rfl (hb hby own_d1_13) _ ?_
    rw [len_of So5 No5]
    show Steps p.tables e below (Tn2.setTop (mkF m 14 #[.val (.ref r0), .val (.ref bn2), .val (.int 0)] [(.int 2), (.int 0)])) _
    refine XS.icmpNo Xn2.here hx rfl (hb hby own_d1_14) rfl (XT.ii_ge_f (by decide : (0 : Int32) < (2 : Int32))) ?_
    refine XS.iloadN Xn2.here hx rfl (hb hby own_d1_17) rfl ?_
    refine XS.iconst Xn2.here hx rfl (hb hby own_d1_18) ?_
    refine XS.irem Xn2.here hx rfl (hb hby own_d1_19) rfl (by decide) ?_
    show Steps p.tables e below (Tn2.setTop (mkF m 20 #[.val (.ref r0), .val (.ref bn2), .val (.int 0)] [(.int 0)])) _
    refine XS.ifNo Xn2.here hx rfl (hb hby own_d1_20) rfl (XT.i0_ne_f (by decide : (0 : Int32) = (0 : Int32))) ?_
    refine XS.aloadN Xn2.here hx rfl (hb hby own_d1_23) rfl rfl ?_
    refine XS.iloadN Xn2.here hx rfl (hb hby own_d1_24) rfl ?_
    refine XS.iconst Xn2.here hx rfl (hb hby own_d1_25) ?_
    refine XS.idiv Xn2.here hx rfl (hb hby own_d1_26) rfl (by decide) ?_
    show Steps p.tables e below (Tn2.setTop (mkF m 27 #[.val (.ref r0), .val (.ref bn2), .val (.int 0)] [(.int 0), (.ref bn2)])) _
    refine XT.dup2 Xn2.here hx rfl (hb hby own_d1_27) rfl rfl rfl ?_
    refine Xn2.daload hx (j := (0 : Int32)) (v := (.double 0)) (by rw [en2]; exact Aro6.1) (State.isArrayOf_alike hZ.alike Aro6.2.1) Aro6.2.2 hi7 ha8 (g := (mkF m 28 #[.val (.ref r0), .val (.ref bn2), .val (.int 0)] [(.int 0), (.ref bn2), (.int 0), (.ref bn2)])) rfl rfl (hb hby own_d1_28) _ ?_
    refine XS.aloadN Xn2.here hx rfl (hb hby own_d1_29) rfl rfl ?_
    refine XS.iloadN Xn2.here hx rfl (hb hby own_d1_30) rfl ?_
    refine Xn2.daload hx (j := (0 : Int32)) (v := (.double x_r0_0)) (by rw [en2]; exact Aro5.1) (State.isArrayOf_alike hZ.alike Aro5.2.1) Aro5.2.2 hi9 ha10 (g := (mkF m 31 #[.val (.ref r0), .val (.ref bn2), .val (.int 0)] [(.int 0), (.ref r0), (.double 0), (.int 0), (.ref bn2)])) rfl rfl (hb hby own_d1_31) _ ?_
    show Steps p.tables e below (Tn2.setTop (mkF m 32 #[.val (.ref r0), .val (.ref bn2), .val (.int 0)] [(.double x_r0_0), (.double 0), (.int 0), (.ref bn2)])) _
    refine XS.daddS Xn2.here hx rfl (hb hby own_d1_32) rfl nn32 rfl ?_
    refine sto11 _ ?_
    refine XS.goto Xo11.here hx rfl (pc0 := 34) (pc' := 69) rfl (hb hby own_d1_34) (by decide) (by decide) ?_
    refine XS.iinc Xo11.here hx rfl (hb hby own_d1_69) rfl (l' := #[.val (.ref r0), .val (.ref bn2), .val (.int 1)]) rfl ?_
    refine XS.goto Xo11.here hx rfl (pc0 := 72) (pc' := 11) rfl (hb hby own_d1_72) (by decide) (by decide) ?_
    refine XS.iloadN Xo11.here hx rfl (hb hby own_d1_11) rfl ?_
    refine XS.aloadN Xo11.here hx rfl (hb hby own_d1_12) rfl rfl ?_
    refine Xo11.arraylength hx (by rw [eo11]; exact Aro15.1) (State.isArrayOf_alike hZ.alike Aro15.2.1) (g := (mkF m 13 #[.val (.ref r0), .val (.ref bn2), .val (.int 1)] [(.ref r0), (.int 1)])) rfl rfl (hb hby own_d1_13) _ ?_
    rw [len_of So15 No15]
    show Steps p.tables e below (To11.setTop (mkF m 14 #[.val (.ref r0), .val (.ref bn2), .val (.int 1)] [(.int 2), (.int 1)])) _
    refine XS.icmpNo Xo11.here hx rfl (hb hby own_d1_14) rfl (XT.ii_ge_f (by decide : (1 : Int32) < (2 : Int32))) ?_
    refine XS.iloadN Xo11.here hx rfl (hb hby own_d1_17) rfl ?_
    refine XS.iconst Xo11.here hx rfl (hb hby own_d1_18) ?_
    refine XS.irem Xo11.here hx rfl (hb hby own_d1_19) rfl (by decide) ?_
    show Steps p.tables e below (To11.setTop (mkF m 20 #[.val (.ref r0), .val (.ref bn2), .val (.int 1)] [(.int 1)])) _
    refine XS.ifYes Xo11.here hx rfl (pc0 := 20) (pc' := 37) rfl (hb hby own_d1_20) rfl (XT.i0_ne_t (by decide : ¬ ((1 : Int32) = (0 : Int32)))) (by decide) (by decide) ?_
    refine XS.aloadN Xo11.here hx rfl (hb hby own_d1_37) rfl rfl ?_
    refine XS.iloadN Xo11.here hx rfl (hb hby own_d1_38) rfl ?_
    refine XS.iconst Xo11.here hx rfl (hb hby own_d1_39) ?_
    refine XS.idiv Xo11.here hx rfl (hb hby own_d1_40) rfl (by decide) ?_
    show Steps p.tables e below (To11.setTop (mkF m 41 #[.val (.ref r0), .val (.ref bn2), .val (.int 1)] [(.int 0), (.ref bn2)])) _
    refine XT.dup2 Xo11.here hx rfl (hb hby own_d1_41) rfl rfl rfl ?_
    refine Xo11.daload hx (j := (0 : Int32)) (v := (.double (FP.dadd (0 : UInt64) x_r0_0))) (by rw [eo11]; exact Aro16.1) (State.isArrayOf_alike hZ.alike Aro16.2.1) Aro16.2.2 hi17 ha18 (g := (mkF m 42 #[.val (.ref r0), .val (.ref bn2), .val (.int 1)] [(.int 0), (.ref bn2), (.int 0), (.ref bn2)])) rfl rfl (hb hby own_d1_42) _ ?_
    refine XS.aloadN Xo11.here hx rfl (hb hby own_d1_43) rfl rfl ?_
    refine XS.iloadN Xo11.here hx rfl (hb hby own_d1_44) rfl ?_
    refine Xo11.daload hx (j := (1 : Int32)) (v := (.double x_r0_1)) (by rw [eo11]; exact Aro15.1) (State.isArrayOf_alike hZ.alike Aro15.2.1) Aro15.2.2 hi19 ha20 (g := (mkF m 45 #[.val (.ref r0), .val (.ref bn2), .val (.int 1)] [(.int 1), (.ref r0), (.double (FP.dadd (0 : UInt64) x_r0_0)), (.int 0), (.ref bn2)])) rfl rfl (hb hby own_d1_45) _ ?_
    show Steps p.tables e below (To11.setTop (mkF m 46 #[.val (.ref r0), .val (.ref bn2), .val (.int 1)] [(.double x_r0_1), (.double (FP.dadd (0 : UInt64) x_r0_0)), (.int 0), (.ref bn2)])) _
    refine Xo11.ldc2DoubleC hx hown (mvT hZ (own_W hw 14 rfl)) (g := (mkF m 46 #[.val (.ref r0), .val (.ref bn2), .val (.int 1)] [(.double x_r0_1), (.double (FP.dadd (0 : UInt64) x_r0_0)), (.int 0), (.ref bn2)])) rfl (hb hby own_d1_46) _ ?_
    refine XS.ddivS Xo11.here hx rfl (hb hby own_d1_49) rfl nn49 rfl ?_
    refine XS.daddS Xo11.here hx rfl (hb hby own_d1_50) rfl nn50 rfl ?_
    refine sto21 _ ?_
    show Steps p.tables e below (To21.setTop (mkF m 52 #[.val (.ref r0), .val (.ref bn2), .val (.int 1)] [])) _
    refine XS.aloadN Xo21.here hx rfl (hb hby own_d1_52) rfl rfl ?_
    refine XS.iloadN Xo21.here hx rfl (hb hby own_d1_53) rfl ?_
    refine XS.iconst Xo21.here hx rfl (hb hby own_d1_54) ?_
    refine XS.idiv Xo21.here hx rfl (hb hby own_d1_55) rfl (by decide) ?_
    show Steps p.tables e below (To21.setTop (mkF m 56 #[.val (.ref r0), .val (.ref bn2), .val (.int 1)] [(.int 0), (.ref bn2)])) _
    refine XS.iconst Xo21.here hx rfl (hb hby own_d1_56) ?_
    refine XS.iadd Xo21.here hx rfl (hb hby own_d1_57) rfl ?_
    show Steps p.tables e below (To21.setTop (mkF m 58 #[.val (.ref r0), .val (.ref bn2), .val (.int 1)] [(.int 1), (.ref bn2)])) _
    refine XT.dup2 Xo21.here hx rfl (hb hby own_d1_58) rfl rfl rfl ?_
    refine Xo21.daload hx (j := (1 : Int32)) (v := (.double 0)) (by rw [eo21]; exact Aro23.1) (State.isArrayOf_alike hZ.alike Aro23.2.1) Aro23.2.2 hi24 ha25 (g := (mkF m 59 #[.val (.ref r0), .val (.ref bn2), .val (.int 1)] [(.int 1), (.ref bn2), (.int 1), (.ref bn2)])) rfl rfl (hb hby own_d1_59) _ ?_
    refine XS.aloadN Xo21.here hx rfl (hb hby own_d1_60) rfl rfl ?_
    refine XS.iloadN Xo21.here hx rfl (hb hby own_d1_61) rfl ?_
    refine Xo21.daload hx (j := (1 : Int32)) (v := (.double x_r0_1)) (by rw [eo21]; exact Aro27.1) (State.isArrayOf_alike hZ.alike Aro27.2.1) Aro27.2.2 hi28 ha29 (g := (mkF m 62 #[.val (.ref r0), .val (.ref bn2), .val (.int 1)] [(.int 1), (.ref r0), (.double 0), (.int 1), (.ref bn2)])) rfl rfl (hb hby own_d1_62) _ ?_
    show Steps p.tables e below (To21.setTop (mkF m 63 #[.val (.ref r0), .val (.ref bn2), .val (.int 1)] [(.double x_r0_1), (.double 0), (.int 1), (.ref bn2)])) _
    refine Xo21.ldc2DoubleC hx hown (mvT hZ (own_W hw 14 rfl)) (g := (mkF m 63 #[.val (.ref r0), .val (.ref bn2), .val (.int 1)] [(.double x_r0_1), (.double 0), (.int 1), (.ref bn2)])) rfl (hb hby own_d1_63) _ ?_
    refine XS.ddivS Xo21.here hx rfl (hb hby own_d1_66) rfl nn49 rfl ?_
    refine XS.daddS Xo21.here hx rfl (hb hby own_d1_67) rfl nn67 rfl ?_
    refine sto30 _ ?_
    show Steps p.tables e below (To30.setTop (mkF m 69 #[.val (.ref r0), .val (.ref bn2), .val (.int 1)] [])) _
    refine XS.iinc Xo30.here hx rfl (hb hby own_d1_69) rfl (l' := #[.val (.ref r0), .val (.ref bn2), .val (.int 2)]) rfl ?_
    refine XS.goto Xo30.here hx rfl (pc0 := 72) (pc' := 11) rfl (hb hby own_d1_72) (by decide) (by decide) ?_
    refine XS.iloadN Xo30.here hx rfl (hb hby own_d1_11) rfl ?_
    refine XS.aloadN Xo30.here hx rfl (hb hby own_d1_12) rfl rfl ?_
    refine Xo30.arraylength hx (by rw [eo30]; exact Aro33.1) (State.isArrayOf_alike hZ.alike Aro33.2.1) (g := (mkF m 13 #[.val (.ref r0), .val (.ref bn2), .val (.int 2)] [(.ref r0), (.int 2)])) rfl rfl (hb hby own_d1_13) _ ?_
    rw [len_of So33 No33]
    show Steps p.tables e below (To30.setTop (mkF m 14 #[.val (.ref r0), .val (.ref bn2), .val (.int 2)] [(.int 2), (.int 2)])) _
    refine XS.icmpYes Xo30.here hx rfl (pc0 := 14) (pc' := 75) rfl (hb hby own_d1_14) rfl (XT.ii_ge_t (by decide : ¬ ((2 : Int32) < (2 : Int32)))) (by decide) (by decide) ?_
    refine XS.aloadN Xo30.here hx rfl (hb hby own_d1_75) rfl rfl ?_
    show Steps p.tables e below (To30.setTop (mkF m 76 #[.val (.ref r0), .val (.ref bn2), .val (.int 2)] [(.ref bn2)])) _
    jvm_step Xo30.here [Xo30.here.top, hx, (hb hby own_d1_76), Xo30.method', Bd.returns, Value.isRef, FieldType.isReference]
    first | (intro acts; rw [hr _ acts rfl rfl rfl]) | rw [hr _ _ rfl rfl rfl]
    exact Steps.refl _
  · show own_Qh2 Z r0 k_r0 x_r0_0 x_r0_1 h0 n0 _ To30.heap _
    rw [eo30]
    exact ⟨bn2, kn2, rfl, Nfo30, (((((Keep.refl h0 []).ext En2).wr Wo11 (Or.inr sz_bn2)).wr Wo21 (Or.inr sz_bn2)).wr Wo30 (Or.inr sz_bn2)), sz_bn2, Vwo30⟩
def own_vh3_0 (x_r0_0 : UInt64) (x_r0_1 : UInt64) : UInt64 := (FP.dadd (FP.dadd (0 : UInt64) x_r0_0) (FP.ddiv x_r0_1 (4611686018427387904 : UInt64)))
def own_vh3_1 (x_r0_1 : UInt64) : UInt64 := (FP.dadd (0 : UInt64) (FP.ddiv x_r0_1 (4611686018427387904 : UInt64)))
def own_vh3_2 (x_r0_1 : UInt64) (x_r0_2 : UInt64) : UInt64 := (FP.dadd (own_vh3_1 x_r0_1) x_r0_2)
theorem own_efh3 (m : MethodId) (r0 : Addr) : entryFrame m #[(.ref r0)] 3 = mkF m 0 #[.val (.ref r0), .unset, .unset] [] := by first | (simp [entryFrame, mkF, argsToLocals, Value.category]; done) | rfl
def own_Qh3 (Z : State) (r0 : Addr) (k_r0 : ClassId) (x_r0_0 : UInt64) (x_r0_1 : UInt64) (x_r0_2 : UInt64) (h0 : Heap) (n0 : Nat) (v : Option Value) (h : Heap) (L : List Loc) : Prop := ∃ (bn2 : Addr) (kn2 : ClassId), v = some (.ref bn2) ∧ Fr n0 L ∧ Keep h0 h [] ∧ h0.size ≤ bn2 ∧ Arv Z h bn2 kn2 .double (2 : Int32) [(.double (own_vh3_0 x_r0_0 x_r0_1)), (.double (own_vh3_2 x_r0_1 x_r0_2))] (.double 0)
set_option maxRecDepth 65536 in
set_option maxHeartbeats 40000000 in
theorem own_rmh3 (l : Launch) (Z : State) (a0 : Array Value) (hw : ∀ d ∈ tables_1, d.before a0 Z = true) (ws : List Jvm.Cond) (r0 : Addr) (k_r0 : ClassId) (x_r0_0 : UInt64) (x_r0_1 : UInt64) (x_r0_2 : UInt64) (h0 : Heap) (n0 : Nat) (Z0 : n0 ≤ h0.size) (V_r0 : Arv Z h0 r0 k_r0 .double (3 : Int32) [(.double x_r0_0), (.double x_r0_1), (.double x_r0_2)] (.double 0)) (nn32 : NoNaN64 (FP.dadd (0 : UInt64) x_r0_0)) (nn49 : NoNaN64 (FP.ddiv x_r0_1 (4611686018427387904 : UInt64))) (nn50 : NoNaN64 (FP.dadd (FP.dadd (0 : UInt64) x_r0_0) (FP.ddiv x_r0_1 (4611686018427387904 : UInt64)))) (nn67 : NoNaN64 (FP.dadd (0 : UInt64) (FP.ddiv x_r0_1 (4611686018427387904 : UInt64)))) (nn32_2 : NoNaN64 (FP.dadd (own_vh3_1 x_r0_1) x_r0_2)) :
    MetFree l (⟨"com/example/surepath/surepath/TravelTime$Lattices", "halved", "([D)[D"⟩ : MethodName) (head1 (Jvm.Cond.code (⟨"com/example/surepath/surepath/TravelTime$Lattices", "halved", "([D)[D"⟩ : MethodName) prog_64_method_16_code 3 (some (.array .double)) :: ws) ({ frames := 0, cells := 1, slots := 2, locals := 0 } : Room)) (fun a U => a = #[(.ref r0)] ∧ Z.Warmed39 U.vm ∧ U.heap = h0) (fun _ _ _ _ _ => True) (fun _ U o U' => ∃ v L, o = .returned v ∧ own_Qh3 Z r0 k_r0 x_r0_0 x_r0_1 x_r0_2 h0 n0 v U'.heap L ∧ FrameEnd U o U' L ({ frames := 0, cells := 1, slots := 2, locals := 0 } : Room).cells ({ frames := 0, cells := 1, slots := 2, locals := 0 } : Room).slots) := by
  refine MetFree.of_bodySF (plainFor_of_name own_pn1) hisR ?_
  intro p e s m args below meth c s₁ Bd hml0 hP hK
  obtain ⟨rfl, hZ, hh⟩ := hP
  have hx := Bd.exec
  have hby := Bd.bytes
  have hml : c.maxLocals = 3 := hml0
  have hown : s.vm.findClass "com/example/surepath/surepath/TravelTime$Lattices" = some m.cls := findClass_of_methodNamed Bd.named
  have hnm := (name_of_methodNamed Bd.named Bd.method).1
  have X0 : Stand p l e ({ frames := 0, cells := 1, slots := 2, locals := 0 } : Room) s m #[(.ref r0)] below meth c s₁ [] 0 0 := Stand.of_body Bd
  have e0 : s₁.heap = h0 := by rw [← hh, Bd.state]; rfl
  have N0 := Fr.nil n0
  have Zr : h0.size ≤ h0.size := Nat.le_refl _
  have pre0 : ∀ t, Steps p.tables e below (s₁.setTop (mkF m 0 #[.val (.ref r0), .unset, .unset] [])) t → Steps p.tables e below (s₁.setTop (entryFrame m #[(.ref r0)] 3)) t := fun t k => castTop (own_efh3 m r0) k
  obtain ⟨clo1, Aro1, qo1, So1, No1, Ho1, Go1⟩ := id V_r0
  obtain ⟨Tn2, hn2, kn2, Xn2, en2, En2, An2, stn2⟩ := newP X0 hx hZ (own_W hw 1 rfl) e0 (g := (mkF m 6 #[.val (.ref r0), .unset, .unset] [(.int 2)])) rfl (hb hby own_d1_6) rfl (by decide) (cap := 2) (by decide) (by decide) (by decide) (by decide)
  obtain ⟨bn2, gn2⟩ : ∃ z, z = h0.size := ⟨_, rfl⟩
  rw [← gn2] at An2 stn2
  have g_bn2 : n0 ≤ bn2 := Nat.le_trans Z0 (Nat.le_of_eq gn2.symm)
  have sz_bn2 : h0.size ≤ bn2 := Nat.le_trans Zr (Nat.le_of_eq gn2.symm)
  have sz3 : h0.size ≤ hn2.size := Nat.le_trans Zr En2.1
  have V_bn2 : Arv Z hn2 bn2 kn2 .double (2 : Int32) [(.double 0), (.double 0)] (.double 0) := (Arv.new An2 (by decide)).pad (pad_rep [] (.double 0) 2)
  have F4 := (V_r0.ext En2)
  obtain ⟨clo5, Aro5, qo5, So5, No5, Ho5, Go5⟩ := id F4
  obtain ⟨clo6, Aro6, qo6, So6, No6, Ho6, Go6⟩ := id V_bn2
  have hi7 := inb_of (j := (0 : Int32)) So6 ⟨by decide, by decide⟩
  have ha8 : _ = some (Value.double (0 : UInt64)) := Ho6.at hi7 rfl
  have hi9 := inb_of (j := (0 : Int32)) So5 ⟨by decide, by decide⟩
  have ha10 : _ = some (Value.double x_r0_0) := Ho5.at hi9 rfl
  obtain ⟨To11, ho11, Xo11, eo11, Wo11, sto11⟩ := stD Xn2 hx hZ en2 Aro6 (j := (0 : Int32)) hi7 (g := (mkF m 33 #[.val (.ref r0), .val (.ref bn2), .val (.int 0)] [(.double (FP.dadd (0 : UInt64) x_r0_0)), (.int 0), (.ref bn2)])) rfl rfl (hb hby own_d1_33)
  have Vwo11 : Arv Z ho11 bn2 kn2 .double (2 : Int32) [(.double (FP.dadd (0 : UInt64) x_r0_0)), (.double 0)] (.double 0) := Arv.set Aro6 qo6 So6 No6 Ho6 Go6 rfl Wo11 0 rfl (Nat.le_of_ble_eq_true rfl)
  have sz12 : h0.size ≤ ho11.size := Nat.le_trans sz3 (Nat.le_of_eq Wo11.size.symm)
  have Nfo11 := Fr.snoc Xo11 N0 g_bn2
  have ne13 : bn2 ≠ r0 := (Ne.symm (Nat.ne_of_lt (Nat.lt_of_lt_of_le V_r0.lt (Nat.le_of_eq gn2.symm))))
  have F14 := (F4.other Wo11 (Ne.symm ne13))
  obtain ⟨clo15, Aro15, qo15, So15, No15, Ho15, Go15⟩ := id F14
  obtain ⟨clo16, Aro16, qo16, So16, No16, Ho16, Go16⟩ := id Vwo11
  have hi17 := inb_of (j := (0 : Int32)) So16 ⟨by decide, by decide⟩
  have ha18 : _ = some (Value.double (FP.dadd (0 : UInt64) x_r0_0)) := Ho16.at hi17 rfl
  have hi19 := inb_of (j := (1 : Int32)) So15 ⟨by decide, by decide⟩
  have ha20 : _ = some (Value.double x_r0_1) := Ho15.at hi19 rfl
  obtain ⟨To21, ho21, Xo21, eo21, Wo21, sto21⟩ := stD Xo11 hx hZ eo11 Aro16 (j := (0 : Int32)) hi17 (g := (mkF m 51 #[.val (.ref r0), .val (.ref bn2), .val (.int 1)] [(.double (FP.dadd (FP.dadd (0 : UInt64) x_r0_0) (FP.ddiv x_r0_1 (4611686018427387904 : UInt64)))), (.int 0), (.ref bn2)])) rfl rfl (hb hby own_d1_51)
  have Vwo21 : Arv Z ho21 bn2 kn2 .double (2 : Int32) [(.double (own_vh3_0 x_r0_0 x_r0_1)), (.double 0)] (.double 0) := Arv.set Aro16 qo16 So16 No16 Ho16 Go16 rfl Wo21 0 rfl (Nat.le_of_ble_eq_true rfl)
  have sz22 : h0.size ≤ ho21.size := Nat.le_trans sz12 (Nat.le_of_eq Wo21.size.symm)
  have Nfo21 := Fr.snoc Xo21 Nfo11 g_bn2
  obtain ⟨clo23, Aro23, qo23, So23, No23, Ho23, Go23⟩ := id Vwo21
  have hi24 := inb_of (j := (1 : Int32)) So23 ⟨by decide, by decide⟩
  have ha25 : _ = some (Value.double (0 : UInt64)) := Ho23.at hi24 rfl
  have F26 := (F14.other Wo21 (Ne.symm ne13))
  obtain ⟨clo27, Aro27, qo27, So27, No27, Ho27, Go27⟩ := id F26
  have hi28 := inb_of (j := (1 : Int32)) So27 ⟨by decide, by decide⟩
  have ha29 : _ = some (Value.double x_r0_1) := Ho27.at hi28 rfl
  obtain ⟨To30, ho30, Xo30, eo30, Wo30, sto30⟩ := stD Xo21 hx hZ eo21 Aro23 (j := (1 : Int32)) hi24 (g := (mkF m 68 #[.val (.ref r0), .val (.ref bn2), .val (.int 1)] [(.double (FP.dadd (0 : UInt64) (FP.ddiv x_r0_1 (4611686018427387904 : UInt64)))), (.int 1), (.ref bn2)])) rfl rfl (hb hby own_d1_68)
  have Vwo30 : Arv Z ho30 bn2 kn2 .double (2 : Int32) [(.double (own_vh3_0 x_r0_0 x_r0_1)), (.double (own_vh3_1 x_r0_1))] (.double 0) := Arv.set Aro23 qo23 So23 No23 Ho23 Go23 rfl Wo30 1 rfl (Nat.le_of_ble_eq_true rfl)
  have sz31 : h0.size ≤ ho30.size := Nat.le_trans sz22 (Nat.le_of_eq Wo30.size.symm)
  have Nfo30 := Fr.snoc Xo30 Nfo21 g_bn2
  have F32 := (F26.other Wo30 (Ne.symm ne13))
  obtain ⟨clo33, Aro33, qo33, So33, No33, Ho33, Go33⟩ := id F32
  obtain ⟨clo34, Aro34, qo34, So34, No34, Ho34, Go34⟩ := id Vwo30
  have hi35 := inb_of (j := (1 : Int32)) So34 ⟨by decide, by decide⟩
  have ha36 : _ = some (Value.double (own_vh3_1 x_r0_1)) := Ho34.at hi35 rfl
  have hi37 := inb_of (j := (2 : Int32)) So33 ⟨by decide, by decide⟩
  have ha38 : _ = some (Value.double x_r0_2) := Ho33.at hi37 rfl
  obtain ⟨To39, ho39, Xo39, eo39, Wo39, sto39⟩ := stD Xo30 hx hZ eo30 Aro34 (j := (1 : Int32)) hi35 (g := (mkF m 33 #[.val (.ref r0), .val (.ref bn2), .val (.int 2)] [(.double (FP.dadd (own_vh3_1 x_r0_1) x_r0_2)), (.int 1), (.ref bn2)])) rfl rfl (hb hby own_d1_33)
  have Vwo39 : Arv Z ho39 bn2 kn2 .double (2 : Int32) [(.double (own_vh3_0 x_r0_0 x_r0_1)), (.double (own_vh3_2 x_r0_1 x_r0_2))] (.double 0) := Arv.set Aro34 qo34 So34 No34 Ho34 Go34 rfl Wo39 1 rfl (Nat.le_of_ble_eq_true rfl)
  have sz40 : h0.size ≤ ho39.size := Nat.le_trans sz31 (Nat.le_of_eq Wo39.size.symm)
  have Nfo39 := Fr.snoc Xo39 Nfo30 g_bn2
  have F41 := (F32.other Wo39 (Ne.symm ne13))
  obtain ⟨clo42, Aro42, qo42, So42, No42, Ho42, Go42⟩ := id F41
  obtain ⟨fs, hr, hrun, hended, hW, hsame⟩ := Xo39.leave (v := some (.ref bn2)) (fun h => by rw [Bd.returns] at h; cases h)
  refine ⟨_, _, pre0 _ (?_), hrun, hended, _, _, rfl, ?_, ⟨_, rfl⟩, hW, hsame.mono (by decide) (by decide)⟩
  · show Steps p.tables e below (s₁.setTop (mkF m 0 #[.val (.ref r0), .unset, .unset] [])) _
    refine XS.aloadN X0.here hx rfl (hb hby own_d1_0) rfl rfl ?_
    refine X0.arraylength hx (by rw [e0]; exact Aro1.1) (State.isArrayOf_alike hZ.alike Aro1.2.1) (g := (mkF m 1 #[.val (.ref r0), .unset, .unset] [(.ref r0)])) rfl rfl (hb hby own_d1_1) _ ?_
    rw [len_of So1 No1]
    show Steps p.tables e below (s₁.setTop (mkF m 2 #[.val (.ref r0), .unset, .unset] [(.int 3)])) _
    refine XS.iconst X0.here hx rfl (hb hby own_d1_2) ?_
    refine XS.idiv X0.here hx rfl (hb hby own_d1_3) rfl (by decide) ?_
    refine XS.iconst X0.here hx rfl (hb hby own_d1_4) ?_
    refine XS.iadd X0.here hx rfl (hb hby own_d1_5) rfl ?_
    show Steps p.tables e below (s₁.setTop (mkF m 6 #[.val (.ref r0), .unset, .unset] [(.int 2)])) _
    refine stn2 _ ?_
    refine XS.astoreN Xn2.here hx rfl (hb hby own_d1_8) rfl rfl (l' := #[.val (.ref r0), .val (.ref bn2), .unset]) rfl ?_
    refine XS.iconst Xn2.here hx rfl (hb hby own_d1_9) ?_
    refine XS.istoreN Xn2.here hx rfl (hb hby own_d1_10) rfl (l' := #[.val (.ref r0), .val (.ref bn2), .val (.int 0)]) rfl ?_
    refine XS.iloadN Xn2.here hx rfl (hb hby own_d1_11) rfl ?_
    refine XS.aloadN Xn2.here hx rfl (hb hby own_d1_12) rfl rfl ?_
    refine Xn2.arraylength hx (by rw [en2]; exact Aro5.1) (State.isArrayOf_alike hZ.alike Aro5.2.1) (g := (mkF m 13 #[.val (.ref r0), .val (.ref bn2), .val (.int 0)] [(.ref r0), (.int 0)])) rfl rfl (hb hby own_d1_13) _ ?_
    rw [len_of So5 No5]
    show Steps p.tables e below (Tn2.setTop (mkF m 14 #[.val (.ref r0), .val (.ref bn2), .val (.int 0)] [(.int 3), (.int 0)])) _
    refine XS.icmpNo Xn2.here hx rfl (hb hby own_d1_14) rfl (XT.ii_ge_f (by decide : (0 : Int32) < (3 : Int32))) ?_
    refine XS.iloadN Xn2.here hx rfl (hb hby own_d1_17) rfl ?_
    refine XS.iconst Xn2.here hx rfl (hb hby own_d1_18) ?_
    refine XS.irem Xn2.here hx rfl (hb hby own_d1_19) rfl (by decide) ?_
    show Steps p.tables e below (Tn2.setTop (mkF m 20 #[.val (.ref r0), .val (.ref bn2), .val (.int 0)] [(.int 0)])) _
    refine XS.ifNo Xn2.here hx rfl (hb hby own_d1_20) rfl (XT.i0_ne_f (by decide : (0 : Int32) = (0 : Int32))) ?_
    refine XS.aloadN Xn2.here hx rfl (hb hby own_d1_23) rfl rfl ?_
    refine XS.iloadN Xn2.here hx rfl (hb hby own_d1_24) rfl ?_
    refine XS.iconst Xn2.here hx rfl (hb hby own_d1_25) ?_
    refine XS.idiv Xn2.here hx rfl (hb hby own_d1_26) rfl (by decide) ?_
    show Steps p.tables e below (Tn2.setTop (mkF m 27 #[.val (.ref r0), .val (.ref bn2), .val (.int 0)] [(.int 0), (.ref bn2)])) _
    refine XT.dup2 Xn2.here hx rfl (hb hby own_d1_27) rfl rfl rfl ?_
    refine Xn2.daload hx (j := (0 : Int32)) (v := (.double 0)) (by rw [en2]; exact Aro6.1) (State.isArrayOf_alike hZ.alike Aro6.2.1) Aro6.2.2 hi7 ha8 (g := (mkF m 28 #[.val (.ref r0), .val (.ref bn2), .val (.int 0)] [(.int 0), (.ref bn2), (.int 0), (.ref bn2)])) rfl rfl (hb hby own_d1_28) _ ?_
    refine XS.aloadN Xn2.here hx rfl (hb hby own_d1_29) rfl rfl ?_
    refine XS.iloadN Xn2.here hx rfl (hb hby own_d1_30) rfl ?_
    refine Xn2.daload hx (j := (0 : Int32)) (v := (.double x_r0_0)) (by rw [en2]; exact Aro5.1) (State.isArrayOf_alike hZ.alike Aro5.2.1) Aro5.2.2 hi9 ha10 (g := (mkF m 31 #[.val (.ref r0), .val (.ref bn2), .val (.int 0)] [(.int 0), (.ref r0), (.double 0), (.int 0), (.ref bn2)])) rfl rfl (hb hby own_d1_31) _ ?_
    show Steps p.tables e below (Tn2.setTop (mkF m 32 #[.val (.ref r0), .val (.ref bn2), .val (.int 0)] [(.double x_r0_0), (.double 0), (.int 0), (.ref bn2)])) _
    refine XS.daddS Xn2.here hx rfl (hb hby own_d1_32) rfl nn32 rfl ?_
    refine sto11 _ ?_
    refine XS.goto Xo11.here hx rfl (pc0 := 34) (pc' := 69) rfl (hb hby own_d1_34) (by decide) (by decide) ?_
    refine XS.iinc Xo11.here hx rfl (hb hby own_d1_69) rfl (l' := #[.val (.ref r0), .val (.ref bn2), .val (.int 1)]) rfl ?_
    refine XS.goto Xo11.here hx rfl (pc0 := 72) (pc' := 11) rfl (hb hby own_d1_72) (by decide) (by decide) ?_
    refine XS.iloadN Xo11.here hx rfl (hb hby own_d1_11) rfl ?_
    refine XS.aloadN Xo11.here hx rfl (hb hby own_d1_12) rfl rfl ?_
    refine Xo11.arraylength hx (by rw [eo11]; exact Aro15.1) (State.isArrayOf_alike hZ.alike Aro15.2.1) (g := (mkF m 13 #[.val (.ref r0), .val (.ref bn2), .val (.int 1)] [(.ref r0), (.int 1)])) rfl rfl (hb hby own_d1_13) _ ?_
    rw [len_of So15 No15]
    show Steps p.tables e below (To11.setTop (mkF m 14 #[.val (.ref r0), .val (.ref bn2), .val (.int 1)] [(.int 3), (.int 1)])) _
    refine XS.icmpNo Xo11.here hx rfl (hb hby own_d1_14) rfl (XT.ii_ge_f (by decide : (1 : Int32) < (3 : Int32))) ?_
    refine XS.iloadN Xo11.here hx rfl (hb hby own_d1_17) rfl ?_
    refine XS.iconst Xo11.here hx rfl (hb hby own_d1_18) ?_
    refine XS.irem Xo11.here hx rfl (hb hby own_d1_19) rfl (by decide) ?_
    show Steps p.tables e below (To11.setTop (mkF m 20 #[.val (.ref r0), .val (.ref bn2), .val (.int 1)] [(.int 1)])) _
    refine XS.ifYes Xo11.here hx rfl (pc0 := 20) (pc' := 37) rfl (hb hby own_d1_20) rfl (XT.i0_ne_t (by decide : ¬ ((1 : Int32) = (0 : Int32)))) (by decide) (by decide) ?_
    refine XS.aloadN Xo11.here hx rfl (hb hby own_d1_37) rfl rfl ?_
    refine XS.iloadN Xo11.here hx rfl (hb hby own_d1_38) rfl ?_
    refine XS.iconst Xo11.here hx rfl (hb hby own_d1_39) ?_
    refine XS.idiv Xo11.here hx rfl (hb hby own_d1_40) rfl (by decide) ?_
    show Steps p.tables e below (To11.setTop (mkF m 41 #[.val (.ref r0), .val (.ref bn2), .val (.int 1)] [(.int 0), (.ref bn2)])) _
    refine XT.dup2 Xo11.here hx rfl (hb hby own_d1_41) rfl rfl rfl ?_
    refine Xo11.daload hx (j := (0 : Int32)) (v := (.double (FP.dadd (0 : UInt64) x_r0_0))) (by rw [eo11]; exact Aro16.1) (State.isArrayOf_alike hZ.alike Aro16.2.1) Aro16.2.2 hi17 ha18 (g := (mkF m 42 #[.val (.ref r0), .val (.ref bn2), .val (.int 1)] [(.int 0), (.ref bn2), (.int 0), (.ref bn2)])) rfl rfl (hb hby own_d1_42) _ ?_
    refine XS.aloadN Xo11.here hx rfl (hb hby own_d1_43) rfl rfl ?_
    refine XS.iloadN Xo11.here hx rfl (hb hby own_d1_44) rfl ?_
    refine Xo11.daload hx (j := (1 : Int32)) (v := (.double x_r0_1)) (by rw [eo11]; exact Aro15.1) (State.isArrayOf_alike hZ.alike Aro15.2.1) Aro15.2.2 hi19 ha20 (g := (mkF m 45 #[.val (.ref r0), .val (.ref bn2), .val (.int 1)] [(.int 1), (.ref r0), (.double (FP.dadd (0 : UInt64) x_r0_0)), (.int 0), (.ref bn2)])) rfl rfl (hb hby own_d1_45) _ ?_
    show Steps p.tables e below (To11.setTop (mkF m 46 #[.val (.ref r0), .val (.ref bn2), .val (.int 1)] [(.double x_r0_1), (.double (FP.dadd (0 : UInt64) x_r0_0)), (.int 0), (.ref bn2)])) _
    refine Xo11.ldc2DoubleC hx hown (mvT hZ (own_W hw 14 rfl)) (g := (mkF m 46 #[.val (.ref r0), .val (.ref bn2), .val (.int 1)] [(.double x_r0_1), (.double (FP.dadd (0 : UInt64) x_r0_0)), (.int 0), (.ref bn2)])) rfl (hb hby own_d1_46) _ ?_
    refine XS.ddivS Xo11.here hx rfl (hb hby own_d1_49) rfl nn49 rfl ?_
    refine XS.daddS Xo11.here hx rfl (hb hby own_d1_50) rfl nn50 rfl ?_
    refine sto21 _ ?_
    show Steps p.tables e below (To21.setTop (mkF m 52 #[.val (.ref r0), .val (.ref bn2), .val (.int 1)] [])) _
    refine XS.aloadN Xo21.here hx rfl (hb hby own_d1_52) rfl rfl ?_
    refine XS.iloadN Xo21.here hx rfl (hb hby own_d1_53) rfl ?_
    refine XS.iconst Xo21.here hx rfl (hb hby own_d1_54) ?_
    refine XS.idiv Xo21.here hx rfl (hb hby own_d1_55) rfl (by decide) ?_
    show Steps p.tables e below (To21.setTop (mkF m 56 #[.val (.ref r0), .val (.ref bn2), .val (.int 1)] [(.int 0), (.ref bn2)])) _
    refine XS.iconst Xo21.here hx rfl (hb hby own_d1_56) ?_
    refine XS.iadd Xo21.here hx rfl (hb hby own_d1_57) rfl ?_
    show Steps p.tables e below (To21.setTop (mkF m 58 #[.val (.ref r0), .val (.ref bn2), .val (.int 1)] [(.int 1), (.ref bn2)])) _
    refine XT.dup2 Xo21.here hx rfl (hb hby own_d1_58) rfl rfl rfl ?_
    refine Xo21.daload hx (j := (1 : Int32)) (v := (.double 0)) (by rw [eo21]; exact Aro23.1) (State.isArrayOf_alike hZ.alike Aro23.2.1) Aro23.2.2 hi24 ha25 (g := (mkF m 59 #[.val (.ref r0), .val (.ref bn2), .val (.int 1)] [(.int 1), (.ref bn2), (.int 1), (.ref bn2)])) rfl rfl (hb hby own_d1_59) _ ?_
    refine XS.aloadN Xo21.here hx rfl (hb hby own_d1_60) rfl rfl ?_
    refine XS.iloadN Xo21.here hx rfl (hb hby own_d1_61) rfl ?_
    refine Xo21.daload hx (j := (1 : Int32)) (v := (.double x_r0_1)) (by rw [eo21]; exact Aro27.1) (State.isArrayOf_alike hZ.alike Aro27.2.1) Aro27.2.2 hi28 ha29 (g := (mkF m 62 #[.val (.ref r0), .val (.ref bn2), .val (.int 1)] [(.int 1), (.ref r0), (.double 0), (.int 1), (.ref bn2)])) rfl rfl (hb hby own_d1_62) _ ?_
    show Steps p.tables e below (To21.setTop (mkF m 63 #[.val (.ref r0), .val (.ref bn2), .val (.int 1)] [(.double x_r0_1), (.double 0), (.int 1), (.ref bn2)])) _
    refine Xo21.ldc2DoubleC hx hown (mvT hZ (own_W hw 14 rfl)) (g := (mkF m 63 #[.val (.ref r0), .val (.ref bn2), .val (.int 1)] [(.double x_r0_1), (.double 0), (.int 1), (.ref bn2)])) rfl (hb hby own_d1_63) _ ?_
    refine XS.ddivS Xo21.here hx rfl (hb hby own_d1_66) rfl nn49 rfl ?_
    refine XS.daddS Xo21.here hx rfl (hb hby own_d1_67) rfl nn67 rfl ?_
    refine sto30 _ ?_
    show Steps p.tables e below (To30.setTop (mkF m 69 #[.val (.ref r0), .val (.ref bn2), .val (.int 1)] [])) _
    refine XS.iinc Xo30.here hx rfl (hb hby own_d1_69) rfl (l' := #[.val (.ref r0), .val (.ref bn2), .val (.int 2)]) rfl ?_
    refine XS.goto Xo30.here hx rfl (pc0 := 72) (pc' := 11) rfl (hb hby own_d1_72) (by decide) (by decide) ?_
    refine XS.iloadN Xo30.here hx rfl (hb hby own_d1_11) rfl ?_
    refine XS.aloadN Xo30.here hx rfl (hb hby own_d1_12) rfl rfl ?_
    refine Xo30.arraylength hx (by rw [eo30]; exact Aro33.1) (State.isArrayOf_alike hZ.alike Aro33.2.1) (g := (mkF m 13 #[.val (.ref r0), .val (.ref bn2), .val (.int 2)] [(.ref r0), (.int 2)])) rfl rfl (hb hby own_d1_13) _ ?_
    rw [len_of So33 No33]
    show Steps p.tables e below (To30.setTop (mkF m 14 #[.val (.ref r0), .val (.ref bn2), .val (.int 2)] [(.int 3), (.int 2)])) _
    refine XS.icmpNo Xo30.here hx rfl (hb hby own_d1_14) rfl (XT.ii_ge_f (by decide : (2 : Int32) < (3 : Int32))) ?_
    refine XS.iloadN Xo30.here hx rfl (hb hby own_d1_17) rfl ?_
    refine XS.iconst Xo30.here hx rfl (hb hby own_d1_18) ?_
    refine XS.irem Xo30.here hx rfl (hb hby own_d1_19) rfl (by decide) ?_
    show Steps p.tables e below (To30.setTop (mkF m 20 #[.val (.ref r0), .val (.ref bn2), .val (.int 2)] [(.int 0)])) _
    refine XS.ifNo Xo30.here hx rfl (hb hby own_d1_20) rfl (XT.i0_ne_f (by decide : (0 : Int32) = (0 : Int32))) ?_
    refine XS.aloadN Xo30.here hx rfl (hb hby own_d1_23) rfl rfl ?_
    refine XS.iloadN Xo30.here hx rfl (hb hby own_d1_24) rfl ?_
    refine XS.iconst Xo30.here hx rfl (hb hby own_d1_25) ?_
    refine XS.idiv Xo30.here hx rfl (hb hby own_d1_26) rfl (by decide) ?_
    show Steps p.tables e below (To30.setTop (mkF m 27 #[.val (.ref r0), .val (.ref bn2), .val (.int 2)] [(.int 1), (.ref bn2)])) _
    refine XT.dup2 Xo30.here hx rfl (hb hby own_d1_27) rfl rfl rfl ?_
    refine Xo30.daload hx (j := (1 : Int32)) (v := (.double (own_vh3_1 x_r0_1))) (by rw [eo30]; exact Aro34.1) (State.isArrayOf_alike hZ.alike Aro34.2.1) Aro34.2.2 hi35 ha36 (g := (mkF m 28 #[.val (.ref r0), .val (.ref bn2), .val (.int 2)] [(.int 1), (.ref bn2), (.int 1), (.ref bn2)])) rfl rfl (hb hby own_d1_28) _ ?_
    refine XS.aloadN Xo30.here hx rfl (hb hby own_d1_29) rfl rfl ?_
    refine XS.iloadN Xo30.here hx rfl (hb hby own_d1_30) rfl ?_
    refine Xo30.daload hx (j := (2 : Int32)) (v := (.double x_r0_2)) (by rw [eo30]; exact Aro33.1) (State.isArrayOf_alike hZ.alike Aro33.2.1) Aro33.2.2 hi37 ha38 (g := (mkF m 31 #[.val (.ref r0), .val (.ref bn2), .val (.int 2)] [(.int 2), (.ref r0), (.double (own_vh3_1 x_r0_1)), (.int 1), (.ref bn2)])) rfl rfl (hb hby own_d1_31) _ ?_
    show Steps p.tables e below (To30.setTop (mkF m 32 #[.val (.ref r0), .val (.ref bn2), .val (.int 2)] [(.double x_r0_2), (.double (own_vh3_1 x_r0_1)), (.int 1), (.ref bn2)])) _
    refine XS.daddS Xo30.here hx rfl (hb hby own_d1_32) rfl nn32_2 rfl ?_
    refine sto39 _ ?_
    refine XS.goto Xo39.here hx rfl (pc0 := 34) (pc' := 69) rfl (hb hby own_d1_34) (by decide) (by decide) ?_
    refine XS.iinc Xo39.here hx rfl (hb hby own_d1_69) rfl (l' := #[.val (.ref r0), .val (.ref bn2), .val (.int 3)]) rfl ?_
    refine XS.goto Xo39.here hx rfl (pc0 := 72) (pc' := 11) rfl (hb hby own_d1_72) (by decide) (by decide) ?_
    refine XS.iloadN Xo39.here hx rfl (hb hby own_d1_11) rfl ?_
    refine XS.aloadN Xo39.here hx rfl (hb hby own_d1_12) rfl rfl ?_
    refine Xo39.arraylength hx (by rw [eo39]; exact Aro42.1) (State.isArrayOf_alike hZ.alike Aro42.2.1) (g := (mkF m 13 #[.val (.ref r0), .val (.ref bn2), .val (.int 3)] [(.ref r0), (.int 3)])) rfl rfl (hb hby own_d1_13) _ ?_
    rw [len_of So42 No42]
    show Steps p.tables e below (To39.setTop (mkF m 14 #[.val (.ref r0), .val (.ref bn2), .val (.int 3)] [(.int 3), (.int 3)])) _
    refine XS.icmpYes Xo39.here hx rfl (pc0 := 14) (pc' := 75) rfl (hb hby own_d1_14) rfl (XT.ii_ge_t (by decide : ¬ ((3 : Int32) < (3 : Int32)))) (by decide) (by decide) ?_
    refine XS.aloadN Xo39.here hx rfl (hb hby own_d1_75) rfl rfl ?_
    show Steps p.tables e below (To39.setTop (mkF m 76 #[.val (.ref r0), .val (.ref bn2), .val (.int 3)] [(.ref bn2)])) _
    jvm_step Xo39.here [Xo39.here.top, hx, (hb hby own_d1_76), Xo39.method', Bd.returns, Value.isRef, FieldType.isReference]
    first | (intro acts; rw [hr _ acts rfl rfl rfl]) | rw [hr _ _ rfl rfl rfl]
    exact Steps.refl _
  · show own_Qh3 Z r0 k_r0 x_r0_0 x_r0_1 x_r0_2 h0 n0 _ To39.heap _
    rw [eo39]
    exact ⟨bn2, kn2, rfl, Nfo39, ((((((Keep.refl h0 []).ext En2).wr Wo11 (Or.inr sz_bn2)).wr Wo21 (Or.inr sz_bn2)).wr Wo30 (Or.inr sz_bn2)).wr Wo39 (Or.inr sz_bn2)), sz_bn2, Vwo39⟩
def own_vh4_0 (x_r0_0 : UInt64) (x_r0_1 : UInt64) : UInt64 := (FP.dadd (FP.dadd (0 : UInt64) x_r0_0) (FP.ddiv x_r0_1 (4611686018427387904 : UInt64)))
def own_vh4_1 (x_r0_1 : UInt64) : UInt64 := (FP.dadd (0 : UInt64) (FP.ddiv x_r0_1 (4611686018427387904 : UInt64)))
def own_vh4_2 (x_r0_1 : UInt64) (x_r0_2 : UInt64) : UInt64 := (FP.dadd (own_vh4_1 x_r0_1) x_r0_2)
def own_vh4_3 (x_r0_1 : UInt64) (x_r0_2 : UInt64) (x_r0_3 : UInt64) : UInt64 := (FP.dadd (own_vh4_2 x_r0_1 x_r0_2) (FP.ddiv x_r0_3 (4611686018427387904 : UInt64)))
def own_vh4_4 (x_r0_3 : UInt64) : UInt64 := (FP.dadd (0 : UInt64) (FP.ddiv x_r0_3 (4611686018427387904 : UInt64)))
theorem own_efh4 (m : MethodId) (r0 : Addr) : entryFrame m #[(.ref r0)] 3 = mkF m 0 #[.val (.ref r0), .unset, .unset] [] := by first | (simp [entryFrame, mkF, argsToLocals, Value.category]; done) | rfl
def own_Qh4 (Z : State) (r0 : Addr) (k_r0 : ClassId) (x_r0_0 : UInt64) (x_r0_1 : UInt64) (x_r0_2 : UInt64) (x_r0_3 : UInt64) (h0 : Heap) (n0 : Nat) (v : Option Value) (h : Heap) (L : List Loc) : Prop := ∃ (bn2 : Addr) (kn2 : ClassId), v = some (.ref bn2) ∧ Fr n0 L ∧ Keep h0 h [] ∧ h0.size ≤ bn2 ∧ Arv Z h bn2 kn2 .double (3 : Int32) [(.double (own_vh4_0 x_r0_0 x_r0_1)), (.double (own_vh4_3 x_r0_1 x_r0_2 x_r0_3)), (.double (own_vh4_4 x_r0_3))] (.double 0)
set_option maxRecDepth 65536 in
set_option maxHeartbeats 40000000 in
theorem own_rmh4 (l : Launch) (Z : State) (a0 : Array Value) (hw : ∀ d ∈ tables_1, d.before a0 Z = true) (ws : List Jvm.Cond) (r0 : Addr) (k_r0 : ClassId) (x_r0_0 : UInt64) (x_r0_1 : UInt64) (x_r0_2 : UInt64) (x_r0_3 : UInt64) (h0 : Heap) (n0 : Nat) (Z0 : n0 ≤ h0.size) (V_r0 : Arv Z h0 r0 k_r0 .double (4 : Int32) [(.double x_r0_0), (.double x_r0_1), (.double x_r0_2), (.double x_r0_3)] (.double 0)) (nn32 : NoNaN64 (FP.dadd (0 : UInt64) x_r0_0)) (nn49 : NoNaN64 (FP.ddiv x_r0_1 (4611686018427387904 : UInt64))) (nn50 : NoNaN64 (FP.dadd (FP.dadd (0 : UInt64) x_r0_0) (FP.ddiv x_r0_1 (4611686018427387904 : UInt64)))) (nn67 : NoNaN64 (FP.dadd (0 : UInt64) (FP.ddiv x_r0_1 (4611686018427387904 : UInt64)))) (nn32_2 : NoNaN64 (FP.dadd (own_vh4_1 x_r0_1) x_r0_2)) (nn49_2 : NoNaN64 (FP.ddiv x_r0_3 (4611686018427387904 : UInt64))) (nn50_2 : NoNaN64 (FP.dadd (own_vh4_2 x_r0_1 x_r0_2) (FP.ddiv x_r0_3 (4611686018427387904 : UInt64)))) (nn67_2 : NoNaN64 (FP.dadd (0 : UInt64) (FP.ddiv x_r0_3 (4611686018427387904 : UInt64)))) :
    MetFree l (⟨"com/example/surepath/surepath/TravelTime$Lattices", "halved", "([D)[D"⟩ : MethodName) (head1 (Jvm.Cond.code (⟨"com/example/surepath/surepath/TravelTime$Lattices", "halved", "([D)[D"⟩ : MethodName) prog_64_method_16_code 3 (some (.array .double)) :: ws) ({ frames := 0, cells := 1, slots := 3, locals := 0 } : Room)) (fun a U => a = #[(.ref r0)] ∧ Z.Warmed39 U.vm ∧ U.heap = h0) (fun _ _ _ _ _ => True) (fun _ U o U' => ∃ v L, o = .returned v ∧ own_Qh4 Z r0 k_r0 x_r0_0 x_r0_1 x_r0_2 x_r0_3 h0 n0 v U'.heap L ∧ FrameEnd U o U' L ({ frames := 0, cells := 1, slots := 3, locals := 0 } : Room).cells ({ frames := 0, cells := 1, slots := 3, locals := 0 } : Room).slots) := by
  refine MetFree.of_bodySF (plainFor_of_name own_pn1) hisR ?_
  intro p e s m args below meth c s₁ Bd hml0 hP hK
  obtain ⟨rfl, hZ, hh⟩ := hP
  have hx := Bd.exec
  have hby := Bd.bytes
  have hml : c.maxLocals = 3 := hml0
  have hown : s.vm.findClass "com/example/surepath/surepath/TravelTime$Lattices" = some m.cls := findClass_of_methodNamed Bd.named
  have hnm := (name_of_methodNamed Bd.named Bd.method).1
  have X0 : Stand p l e ({ frames := 0, cells := 1, slots := 3, locals := 0 } : Room) s m #[(.ref r0)] below meth c s₁ [] 0 0 := Stand.of_body Bd
  have e0 : s₁.heap = h0 := by rw [← hh, Bd.state]; rfl
  have N0 := Fr.nil n0
  have Zr : h0.size ≤ h0.size := Nat.le_refl _
  have pre0 : ∀ t, Steps p.tables e below (s₁.setTop (mkF m 0 #[.val (.ref r0), .unset, .unset] [])) t → Steps p.tables e below (s₁.setTop (entryFrame m #[(.ref r0)] 3)) t := fun t k => castTop (own_efh4 m r0) k
  obtain ⟨clo1, Aro1, qo1, So1, No1, Ho1, Go1⟩ := id V_r0
  obtain ⟨Tn2, hn2, kn2, Xn2, en2, En2, An2, stn2⟩ := newP X0 hx hZ (own_W hw 1 rfl) e0 (g := (mkF m 6 #[.val (.ref r0), .unset, .unset] [(.int 3)])) rfl (hb hby own_d1_6) rfl (by decide) (cap := 3) (by decide) (by decide) (by decide) (by decide)
  obtain ⟨bn2, gn2⟩ : ∃ z, z = h0.size := ⟨_, rfl⟩
  rw [← gn2] at An2 stn2
  have g_bn2 : n0 ≤ bn2 := Nat.le_trans Z0 (Nat.le_of_eq gn2.symm)
  have sz_bn2 : h0.size ≤ bn2 := Nat.le_trans Zr (Nat.le_of_eq gn2.symm)
  have sz3 : h0.size ≤ hn2.size := Nat.le_trans Zr En2.1
  have V_bn2 : Arv Z hn2 bn2 kn2 .double (3 : Int32) [(.double 0), (.double 0), (.double 0)] (.double 0) := (Arv.new An2 (by decide)).pad (pad_rep [] (.double 0) 3)
  have F4 := (V_r0.ext En2)
  obtain ⟨clo5, Aro5, qo5, So5, No5, Ho5, Go5⟩ := id F4
  obtain ⟨clo6, Aro6, qo6, So6, No6, Ho6, Go6⟩ := id V_bn2
  have hi7 := inb_of (j := (0 : Int32)) So6 ⟨by decide, by decide⟩
  have ha8 : _ = some (Value.double (0 : UInt64)) := Ho6.at hi7 rfl
  have hi9 := inb_of (j := (0 : Int32)) So5 ⟨by decide, by decide⟩
  have ha10 : _ = some (Value.double x_r0_0) := Ho5.at hi9 rfl
  obtain ⟨To11, ho11, Xo11, eo11, Wo11, sto11⟩ := stD Xn2 hx hZ en2 Aro6 (j := (0 : Int32)) hi7 (g := (mkF m 33 #[.val (.ref r0), .val (.ref bn2), .val (.int 0)] [(.double (FP.dadd (0 : UInt64) x_r0_0)), (.int 0), (.ref bn2)])) rfl rfl (hb hby own_d1_33)
  have Vwo11 : Arv Z ho11 bn2 kn2 .double (3 : Int32) [(.double (FP.dadd (0 : UInt64) x_r0_0)), (.double 0), (.double 0)] (.double 0) := Arv.set Aro6 qo6 So6 No6 Ho6 Go6 rfl Wo11 0 rfl (Nat.le_of_ble_eq_true rfl)
  have sz12 : h0.size ≤ ho11.size := Nat.le_trans sz3 (Nat.le_of_eq Wo11.size.symm)
  have Nfo11 := Fr.snoc Xo11 N0 g_bn2
  have ne13 : bn2 ≠ r0 := (Ne.symm (Nat.ne_of_lt (Nat.lt_of_lt_of_le V_r0.lt (Nat.le_of_eq gn2.symm))))
  have F14 := (F4.other Wo11 (Ne.symm ne13))
  obtain ⟨clo15, Aro15, qo15, So15, No15, Ho15, Go15⟩ := id F14
  obtain ⟨clo16, Aro16, qo16, So16, No16, Ho16, Go16⟩ := id Vwo11
  have hi17 := inb_of (j := (0 : Int32)) So16 ⟨by decide, by decide⟩
  have ha18 : _ = some (Value.double (FP.dadd (0 : UInt64) x_r0_0)) := Ho16.at hi17 rfl
  have hi19 := inb_of (j := (1 : Int32)) So15 ⟨by decide, by decide⟩
  have ha20 : _ = some (Value.double x_r0_1) := Ho15.at hi19 rfl
  obtain ⟨To21, ho21, Xo21, eo21, Wo21, sto21⟩ := stD Xo11 hx hZ eo11 Aro16 (j := (0 : Int32)) hi17 (g := (mkF m 51 #[.val (.ref r0), .val (.ref bn2), .val (.int 1)] [(.double (FP.dadd (FP.dadd (0 : UInt64) x_r0_0) (FP.ddiv x_r0_1 (4611686018427387904 : UInt64)))), (.int 0), (.ref bn2)])) rfl rfl (hb hby own_d1_51)
  have Vwo21 : Arv Z ho21 bn2 kn2 .double (3 : Int32) [(.double (own_vh4_0 x_r0_0 x_r0_1)), (.double 0), (.double 0)] (.double 0) := Arv.set Aro16 qo16 So16 No16 Ho16 Go16 rfl Wo21 0 rfl (Nat.le_of_ble_eq_true rfl)
  have sz22 : h0.size ≤ ho21.size := Nat.le_trans sz12 (Nat.le_of_eq Wo21.size.symm)
  have Nfo21 := Fr.snoc Xo21 Nfo11 g_bn2
  obtain ⟨clo23, Aro23, qo23, So23, No23, Ho23, Go23⟩ := id Vwo21
  have hi24 := inb_of (j := (1 : Int32)) So23 ⟨by decide, by decide⟩
  have ha25 : _ = some (Value.double (0 : UInt64)) := Ho23.at hi24 rfl
  have F26 := (F14.other Wo21 (Ne.symm ne13))
  obtain ⟨clo27, Aro27, qo27, So27, No27, Ho27, Go27⟩ := id F26
  have hi28 := inb_of (j := (1 : Int32)) So27 ⟨by decide, by decide⟩
  have ha29 : _ = some (Value.double x_r0_1) := Ho27.at hi28 rfl
  obtain ⟨To30, ho30, Xo30, eo30, Wo30, sto30⟩ := stD Xo21 hx hZ eo21 Aro23 (j := (1 : Int32)) hi24 (g := (mkF m 68 #[.val (.ref r0), .val (.ref bn2), .val (.int 1)] [(.double (FP.dadd (0 : UInt64) (FP.ddiv x_r0_1 (4611686018427387904 : UInt64)))), (.int 1), (.ref bn2)])) rfl rfl (hb hby own_d1_68)
  have Vwo30 : Arv Z ho30 bn2 kn2 .double (3 : Int32) [(.double (own_vh4_0 x_r0_0 x_r0_1)), (.double (own_vh4_1 x_r0_1)), (.double 0)] (.double 0) := Arv.set Aro23 qo23 So23 No23 Ho23 Go23 rfl Wo30 1 rfl (Nat.le_of_ble_eq_true rfl)
  have sz31 : h0.size ≤ ho30.size := Nat.le_trans sz22 (Nat.le_of_eq Wo30.size.symm)
  have Nfo30 := Fr.snoc Xo30 Nfo21 g_bn2
  have F32 := (F26.other Wo30 (Ne.symm ne13))
  obtain ⟨clo33, Aro33, qo33, So33, No33, Ho33, Go33⟩ := id F32
  obtain ⟨clo34, Aro34, qo34, So34, No34, Ho34, Go34⟩ := id Vwo30
  have hi35 := inb_of (j := (1 : Int32)) So34 ⟨by decide, by decide⟩
  have ha36 : _ = some (Value.double (own_vh4_1 x_r0_1)) := Ho34.at hi35 rfl
  have hi37 := inb_of (j := (2 : Int32)) So33 ⟨by decide, by decide⟩
  have ha38 : _ = some (Value.double x_r0_2) := Ho33.at hi37 rfl
  obtain ⟨To39, ho39, Xo39, eo39, Wo39, sto39⟩ := stD Xo30 hx hZ eo30 Aro34 (j := (1 : Int32)) hi35 (g := (mkF m 33 #[.val (.ref r0), .val (.ref bn2), .val (.int 2)] [(.double (FP.dadd (own_vh4_1 x_r0_1) x_r0_2)), (.int 1), (.ref bn2)])) rfl rfl (hb hby own_d1_33)
  have Vwo39 : Arv Z ho39 bn2 kn2 .double (3 : Int32) [(.double (own_vh4_0 x_r0_0 x_r0_1)), (.double (own_vh4_2 x_r0_1 x_r0_2)), (.double 0)] (.double 0) := Arv.set Aro34 qo34 So34 No34 Ho34 Go34 rfl Wo39 1 rfl (Nat.le_of_ble_eq_true rfl)
  have sz40 : h0.size ≤ ho39.size := Nat.le_trans sz31 (Nat.le_of_eq Wo39.size.symm)
  have Nfo39 := Fr.snoc Xo39 Nfo30 g_bn2
  have F41 := (F32.other Wo39 (Ne.symm ne13))
  obtain ⟨clo42, Aro42, qo42, So42, No42, Ho42, Go42⟩ := id F41
  obtain ⟨clo43, Aro43, qo43, So43, No43, Ho43, Go43⟩ := id Vwo39
  have hi44 := inb_of (j := (1 : Int32)) So43 ⟨by decide, by decide⟩
  have ha45 : _ = some (Value.double (own_vh4_2 x_r0_1 x_r0_2)) := Ho43.at hi44 rfl
  have hi46 := inb_of (j := (3 : Int32)) So42 ⟨by decide, by decide⟩
  have ha47 : _ = some (Value.double x_r0_3) := Ho42.at hi46 rfl
  obtain ⟨To48, ho48, Xo48, eo48, Wo48, sto48⟩ := stD Xo39 hx hZ eo39 Aro43 (j := (1 : Int32)) hi44 (g := (mkF m 51 #[.val (.ref r0), .val (.ref bn2), .val (.int 3)] [(.double (FP.dadd (own_vh4_2 x_r0_1 x_r0_2) (FP.ddiv x_r0_3 (4611686018427387904 : UInt64)))), (.int 1), (.ref bn2)])) rfl rfl (hb hby own_d1_51)
  have Vwo48 : Arv Z ho48 bn2 kn2 .double (3 : Int32) [(.double (own_vh4_0 x_r0_0 x_r0_1)), (.double (own_vh4_3 x_r0_1 x_r0_2 x_r0_3)), (.double 0)] (.double 0) := Arv.set Aro43 qo43 So43 No43 Ho43 Go43 rfl Wo48 1 rfl (Nat.le_of_ble_eq_true rfl)
  have sz49 : h0.size ≤ ho48.size := Nat.le_trans sz40 (Nat.le_of_eq Wo48.size.symm)
  have Nfo48 := Fr.snoc Xo48 Nfo39 g_bn2
  obtain ⟨clo50, Aro50, qo50, So50, No50, Ho50, Go50⟩ := id Vwo48
  have hi51 := inb_of (j := (2 : Int32)) So50 ⟨by decide, by decide⟩
  have ha52 : _ = some (Value.double (0 : UInt64)) := Ho50.at hi51 rfl
  have F53 := (F41.other Wo48 (Ne.symm ne13))
  obtain ⟨clo54, Aro54, qo54, So54, No54, Ho54, Go54⟩ := id F53
  have hi55 := inb_of (j := (3 : Int32)) So54 ⟨by decide, by decide⟩
  have ha56 : _ = some (Value.double x_r0_3) := Ho54.at hi55 rfl
  obtain ⟨To57, ho57, Xo57, eo57, Wo57, sto57⟩ := stD Xo48 hx hZ eo48 Aro50 (j := (2 : Int32)) hi51 (g := (mkF m 68 #[.val (.ref r0), .val (.ref bn2), .val (.int 3)] [(.double (FP.dadd (0 : UInt64) (FP.ddiv x_r0_3 (4611686018427387904 : UInt64)))), (.int 2), (.ref bn2)])) rfl rfl (hb hby own_d1_68)
  have Vwo57 : Arv Z ho57 bn2 kn2 .double (3 : Int32) [(.double (own_vh4_0 x_r0_0 x_r0_1)), (.double (own_vh4_3 x_r0_1 x_r0_2 x_r0_3)), (.double (own_vh4_4 x_r0_3))] (.double 0) := Arv.set Aro50 qo50 So50 No50 Ho50 Go50 rfl Wo57 2 rfl (Nat.le_of_ble_eq_true rfl)
  have sz58 : h0.size ≤ ho57.size := Nat.le_trans sz49 (Nat.le_of_eq Wo57.size.symm)
  have Nfo57 := Fr.snoc Xo57 Nfo48 g_bn2
  have F59 := (F53.other Wo57 (Ne.symm ne13))
  obtain ⟨clo60, Aro60, qo60, So60, No60, Ho60, Go60⟩ := id F59
  obtain ⟨fs, hr, hrun, hended, hW, hsame⟩ := Xo57.leave (v := some (.ref bn2)) (fun h => by rw [Bd.returns] at h; cases h)
  refine ⟨_, _, pre0 _ (?_), hrun, hended, _, _, rfl, ?_, ⟨_, rfl⟩, hW, hsame.mono (by decide) (by decide)⟩
  · show Steps p.tables e below (s₁.setTop (mkF m 0 #[.val (.ref r0), .unset, .unset] [])) _
    refine XS.aloadN X0.here hx rfl (hb hby own_d1_0) rfl rfl ?_
    refine X0.arraylength hx (by rw [e0]; exact Aro1.1) (State.isArrayOf_alike hZ.alike Aro1.2.1) (g := (mkF m 1 #[.val (.ref r0), .unset, .unset] [(.ref r0)])) rfl rfl (hb hby own_d1_1) _ ?_
    rw [len_of So1 No1]
    show Steps p.tables e below (s₁.setTop (mkF m 2 #[.val (.ref r0), .unset, .unset] [(.int 4)])) _
    refine XS.iconst X0.here hx rfl (hb hby own_d1_2) ?_
    refine XS.idiv X0.here hx rfl (hb hby own_d1_3) rfl (by decide) ?_
    refine XS.iconst X0.here hx rfl (hb hby own_d1_4) ?_
    refine XS.iadd X0.here hx rfl (hb hby own_d1_5) rfl ?_
    show Steps p.tables e below (s₁.setTop (mkF m 6 #[.val (.ref r0), .unset, .unset] [(.int 3)])) _
    refine stn2 _ ?_
    refine XS.astoreN Xn2.here hx rfl (hb hby own_d1_8) rfl rfl (l' := #[.val (.ref r0), .val (.ref bn2), .unset]) rfl ?_
    refine XS.iconst Xn2.here hx rfl (hb hby own_d1_9) ?_
    refine XS.istoreN Xn2.here hx rfl (hb hby own_d1_10) rfl (l' := #[.val (.ref r0), .val (.ref bn2), .val (.int 0)]) rfl ?_
    refine XS.iloadN Xn2.here hx rfl (hb hby own_d1_11) rfl ?_
    refine XS.aloadN Xn2.here hx rfl (hb hby own_d1_12) rfl rfl ?_
    refine Xn2.arraylength hx (by rw [en2]; exact Aro5.1) (State.isArrayOf_alike hZ.alike Aro5.2.1) (g := (mkF m 13 #[.val (.ref r0), .val (.ref bn2), .val (.int 0)] [(.ref r0), (.int 0)])) rfl rfl (hb hby own_d1_13) _ ?_
    rw [len_of So5 No5]
    show Steps p.tables e below (Tn2.setTop (mkF m 14 #[.val (.ref r0), .val (.ref bn2), .val (.int 0)] [(.int 4), (.int 0)])) _
    refine XS.icmpNo Xn2.here hx rfl (hb hby own_d1_14) rfl (XT.ii_ge_f (by decide : (0 : Int32) < (4 : Int32))) ?_
    refine XS.iloadN Xn2.here hx rfl (hb hby own_d1_17) rfl ?_
    refine XS.iconst Xn2.here hx rfl (hb hby own_d1_18) ?_
    refine XS.irem Xn2.here hx rfl (hb hby own_d1_19) rfl (by decide) ?_
    show Steps p.tables e below (Tn2.setTop (mkF m 20 #[.val (.ref r0), .val (.ref bn2), .val (.int 0)] [(.int 0)])) _
    refine XS.ifNo Xn2.here hx rfl (hb hby own_d1_20) rfl (XT.i0_ne_f (by decide : (0 : Int32) = (0 : Int32))) ?_
    refine XS.aloadN Xn2.here hx rfl (hb hby own_d1_23) rfl rfl ?_
    refine XS.iloadN Xn2.here hx rfl (hb hby own_d1_24) rfl ?_
    refine XS.iconst Xn2.here hx rfl (hb hby own_d1_25) ?_
    refine XS.idiv Xn2.here hx rfl (hb hby own_d1_26) rfl (by decide) ?_
    show Steps p.tables e below (Tn2.setTop (mkF m 27 #[.val (.ref r0), .val (.ref bn2), .val (.int 0)] [(.int 0), (.ref bn2)])) _
    refine XT.dup2 Xn2.here hx rfl (hb hby own_d1_27) rfl rfl rfl ?_
    refine Xn2.daload hx (j := (0 : Int32)) (v := (.double 0)) (by rw [en2]; exact Aro6.1) (State.isArrayOf_alike hZ.alike Aro6.2.1) Aro6.2.2 hi7 ha8 (g := (mkF m 28 #[.val (.ref r0), .val (.ref bn2), .val (.int 0)] [(.int 0), (.ref bn2), (.int 0), (.ref bn2)])) rfl rfl (hb hby own_d1_28) _ ?_
    refine XS.aloadN Xn2.here hx rfl (hb hby own_d1_29) rfl rfl ?_
    refine XS.iloadN Xn2.here hx rfl (hb hby own_d1_30) rfl ?_
    refine Xn2.daload hx (j := (0 : Int32)) (v := (.double x_r0_0)) (by rw [en2]; exact Aro5.1) (State.isArrayOf_alike hZ.alike Aro5.2.1) Aro5.2.2 hi9 ha10 (g := (mkF m 31 #[.val (.ref r0), .val (.ref bn2), .val (.int 0)] [(.int 0), (.ref r0), (.double 0), (.int 0), (.ref bn2)])) rfl rfl (hb hby own_d1_31) _ ?_
    show Steps p.tables e below (Tn2.setTop (mkF m 32 #[.val (.ref r0), .val (.ref bn2), .val (.int 0)] [(.double x_r0_0), (.double 0), (.int 0), (.ref bn2)])) _
    refine XS.daddS Xn2.here hx rfl (hb hby own_d1_32) rfl nn32 rfl ?_
    refine sto11 _ ?_
    refine XS.goto Xo11.here hx rfl (pc0 := 34) (pc' := 69) rfl (hb hby own_d1_34) (by decide) (by decide) ?_
    refine XS.iinc Xo11.here hx rfl (hb hby own_d1_69) rfl (l' := #[.val (.ref r0), .val (.ref bn2), .val (.int 1)]) rfl ?_
    refine XS.goto Xo11.here hx rfl (pc0 := 72) (pc' := 11) rfl (hb hby own_d1_72) (by decide) (by decide) ?_
    refine XS.iloadN Xo11.here hx rfl (hb hby own_d1_11) rfl ?_
    refine XS.aloadN Xo11.here hx rfl (hb hby own_d1_12) rfl rfl ?_
    refine Xo11.arraylength hx (by rw [eo11]; exact Aro15.1) (State.isArrayOf_alike hZ.alike Aro15.2.1) (g := (mkF m 13 #[.val (.ref r0), .val (.ref bn2), .val (.int 1)] [(.ref r0), (.int 1)])) rfl rfl (hb hby own_d1_13) _ ?_
    rw [len_of So15 No15]
    show Steps p.tables e below (To11.setTop (mkF m 14 #[.val (.ref r0), .val (.ref bn2), .val (.int 1)] [(.int 4), (.int 1)])) _
    refine XS.icmpNo Xo11.here hx rfl (hb hby own_d1_14) rfl (XT.ii_ge_f (by decide : (1 : Int32) < (4 : Int32))) ?_
    refine XS.iloadN Xo11.here hx rfl (hb hby own_d1_17) rfl ?_
    refine XS.iconst Xo11.here hx rfl (hb hby own_d1_18) ?_
    refine XS.irem Xo11.here hx rfl (hb hby own_d1_19) rfl (by decide) ?_
    show Steps p.tables e below (To11.setTop (mkF m 20 #[.val (.ref r0), .val (.ref bn2), .val (.int 1)] [(.int 1)])) _
    refine XS.ifYes Xo11.here hx rfl (pc0 := 20) (pc' := 37) rfl (hb hby own_d1_20) rfl (XT.i0_ne_t (by decide : ¬ ((1 : Int32) = (0 : Int32)))) (by decide) (by decide) ?_
    refine XS.aloadN Xo11.here hx rfl (hb hby own_d1_37) rfl rfl ?_
    refine XS.iloadN Xo11.here hx rfl (hb hby own_d1_38) rfl ?_
    refine XS.iconst Xo11.here hx rfl (hb hby own_d1_39) ?_
    refine XS.idiv Xo11.here hx rfl (hb hby own_d1_40) rfl (by decide) ?_
    show Steps p.tables e below (To11.setTop (mkF m 41 #[.val (.ref r0), .val (.ref bn2), .val (.int 1)] [(.int 0), (.ref bn2)])) _
    refine XT.dup2 Xo11.here hx rfl (hb hby own_d1_41) rfl rfl rfl ?_
    refine Xo11.daload hx (j := (0 : Int32)) (v := (.double (FP.dadd (0 : UInt64) x_r0_0))) (by rw [eo11]; exact Aro16.1) (State.isArrayOf_alike hZ.alike Aro16.2.1) Aro16.2.2 hi17 ha18 (g := (mkF m 42 #[.val (.ref r0), .val (.ref bn2), .val (.int 1)] [(.int 0), (.ref bn2), (.int 0), (.ref bn2)])) rfl rfl (hb hby own_d1_42) _ ?_
    refine XS.aloadN Xo11.here hx rfl (hb hby own_d1_43) rfl rfl ?_
    refine XS.iloadN Xo11.here hx rfl (hb hby own_d1_44) rfl ?_
    refine Xo11.daload hx (j := (1 : Int32)) (v := (.double x_r0_1)) (by rw [eo11]; exact Aro15.1) (State.isArrayOf_alike hZ.alike Aro15.2.1) Aro15.2.2 hi19 ha20 (g := (mkF m 45 #[.val (.ref r0), .val (.ref bn2), .val (.int 1)] [(.int 1), (.ref r0), (.double (FP.dadd (0 : UInt64) x_r0_0)), (.int 0), (.ref bn2)])) rfl rfl (hb hby own_d1_45) _ ?_
    show Steps p.tables e below (To11.setTop (mkF m 46 #[.val (.ref r0), .val (.ref bn2), .val (.int 1)] [(.double x_r0_1), (.double (FP.dadd (0 : UInt64) x_r0_0)), (.int 0), (.ref bn2)])) _
    refine Xo11.ldc2DoubleC hx hown (mvT hZ (own_W hw 14 rfl)) (g := (mkF m 46 #[.val (.ref r0), .val (.ref bn2), .val (.int 1)] [(.double x_r0_1), (.double (FP.dadd (0 : UInt64) x_r0_0)), (.int 0), (.ref bn2)])) rfl (hb hby own_d1_46) _ ?_
    refine XS.ddivS Xo11.here hx rfl (hb hby own_d1_49) rfl nn49 rfl ?_
    refine XS.daddS Xo11.here hx rfl (hb hby own_d1_50) rfl nn50 rfl ?_
    refine sto21 _ ?_
    show Steps p.tables e below (To21.setTop (mkF m 52 #[.val (.ref r0), .val (.ref bn2), .val (.int 1)] [])) _
    refine XS.aloadN Xo21.here hx rfl (hb hby own_d1_52) rfl rfl ?_
    refine XS.iloadN Xo21.here hx rfl (hb hby own_d1_53) rfl ?_
    refine XS.iconst Xo21.here hx rfl (hb hby own_d1_54) ?_
    refine XS.idiv Xo21.here hx rfl (hb hby own_d1_55) rfl (by decide) ?_
    show Steps p.tables e below (To21.setTop (mkF m 56 #[.val (.ref r0), .val (.ref bn2), .val (.int 1)] [(.int 0), (.ref bn2)])) _
    refine XS.iconst Xo21.here hx rfl (hb hby own_d1_56) ?_
    refine XS.iadd Xo21.here hx rfl (hb hby own_d1_57) rfl ?_
    show Steps p.tables e below (To21.setTop (mkF m 58 #[.val (.ref r0), .val (.ref bn2), .val (.int 1)] [(.int 1), (.ref bn2)])) _
    refine XT.dup2 Xo21.here hx rfl (hb hby own_d1_58) rfl rfl rfl ?_
    refine Xo21.daload hx (j := (1 : Int32)) (v := (.double 0)) (by rw [eo21]; exact Aro23.1) (State.isArrayOf_alike hZ.alike Aro23.2.1) Aro23.2.2 hi24 ha25 (g := (mkF m 59 #[.val (.ref r0), .val (.ref bn2), .val (.int 1)] [(.int 1), (.ref bn2), (.int 1), (.ref bn2)])) rfl rfl (hb hby own_d1_59) _ ?_
    refine XS.aloadN Xo21.here hx rfl (hb hby own_d1_60) rfl rfl ?_
    refine XS.iloadN Xo21.here hx rfl (hb hby own_d1_61) rfl ?_
    refine Xo21.daload hx (j := (1 : Int32)) (v := (.double x_r0_1)) (by rw [eo21]; exact Aro27.1) (State.isArrayOf_alike hZ.alike Aro27.2.1) Aro27.2.2 hi28 ha29 (g := (mkF m 62 #[.val (.ref r0), .val (.ref bn2), .val (.int 1)] [(.int 1), (.ref r0), (.double 0), (.int 1), (.ref bn2)])) rfl rfl (hb hby own_d1_62) _ ?_
    show Steps p.tables e below (To21.setTop (mkF m 63 #[.val (.ref r0), .val (.ref bn2), .val (.int 1)] [(.double x_r0_1), (.double 0), (.int 1), (.ref bn2)])) _
    refine Xo21.ldc2DoubleC hx hown (mvT hZ (own_W hw 14 rfl)) (g := (mkF m 63 #[.val (.ref r0), .val (.ref bn2), .val (.int 1)] [(.double x_r0_1), (.double 0), (.int 1), (.ref bn2)])) rfl (hb hby own_d1_63) _ ?_
    refine XS.ddivS Xo21.here hx rfl (hb hby own_d1_66) rfl nn49 rfl ?_
    refine XS.daddS Xo21.here hx rfl (hb hby own_d1_67) rfl nn67 rfl ?_
    refine sto30 _ ?_
    show Steps p.tables e below (To30.setTop (mkF m 69 #[.val (.ref r0), .val (.ref bn2), .val (.int 1)] [])) _
    refine XS.iinc Xo30.here hx rfl (hb hby own_d1_69) rfl (l' := #[.val (.ref r0), .val (.ref bn2), .val (.int 2)]) rfl ?_
    refine XS.goto Xo30.here hx rfl (pc0 := 72) (pc' := 11) rfl (hb hby own_d1_72) (by decide) (by decide) ?_
    refine XS.iloadN Xo30.here hx rfl (hb hby own_d1_11) rfl ?_
    refine XS.aloadN Xo30.here hx rfl (hb hby own_d1_12) rfl rfl ?_
    refine Xo30.arraylength hx (by rw [eo30]; exact Aro33.1) (State.isArrayOf_alike hZ.alike Aro33.2.1) (g := (mkF m 13 #[.val (.ref r0), .val (.ref bn2), .val (.int 2)] [(.ref r0), (.int 2)])) rfl rfl (hb hby own_d1_13) _ ?_
    rw [len_of So33 No33]
    show Steps p.tables e below (To30.setTop (mkF m 14 #[.val (.ref r0), .val (.ref bn2), .val (.int 2)] [(.int 4), (.int 2)])) _
    refine XS.icmpNo Xo30.here hx rfl (hb hby own_d1_14) rfl (XT.ii_ge_f (by decide : (2 : Int32) < (4 : Int32))) ?_
    refine XS.iloadN Xo30.here hx rfl (hb hby own_d1_17) rfl ?_
    refine XS.iconst Xo30.here hx rfl (hb hby own_d1_18) ?_
    refine XS.irem Xo30.here hx rfl (hb hby own_d1_19) rfl (by decide) ?_
    show Steps p.tables e below (To30.setTop (mkF m 20 #[.val (.ref r0), .val (.ref bn2), .val (.int 2)] [(.int 0)])) _
    refine XS.ifNo Xo30.here hx rfl (hb hby own_d1_20) rfl (XT.i0_ne_f (by decide : (0 : Int32) = (0 : Int32))) ?_
    refine XS.aloadN Xo30.here hx rfl (hb hby own_d1_23) rfl rfl ?_
    refine XS.iloadN Xo30.here hx rfl (hb hby own_d1_24) rfl ?_
    refine XS.iconst Xo30.here hx rfl (hb hby own_d1_25) ?_
    refine XS.idiv Xo30.here hx rfl (hb hby own_d1_26) rfl (by decide) ?_
    show Steps p.tables e below (To30.setTop (mkF m 27 #[.val (.ref r0), .val (.ref bn2), .val (.int 2)] [(.int 1), (.ref bn2)])) _
    refine XT.dup2 Xo30.here hx rfl (hb hby own_d1_27) rfl rfl rfl ?_
    refine Xo30.daload hx (j := (1 : Int32)) (v := (.double (own_vh4_1 x_r0_1))) (by rw [eo30]; exact Aro34.1) (State.isArrayOf_alike hZ.alike Aro34.2.1) Aro34.2.2 hi35 ha36 (g := (mkF m 28 #[.val (.ref r0), .val (.ref bn2), .val (.int 2)] [(.int 1), (.ref bn2), (.int 1), (.ref bn2)])) rfl rfl (hb hby own_d1_28) _ ?_
    refine XS.aloadN Xo30.here hx rfl (hb hby own_d1_29) rfl rfl ?_
    refine XS.iloadN Xo30.here hx rfl (hb hby own_d1_30) rfl ?_
    refine Xo30.daload hx (j := (2 : Int32)) (v := (.double x_r0_2)) (by rw [eo30]; exact Aro33.1) (State.isArrayOf_alike hZ.alike Aro33.2.1) Aro33.2.2 hi37 ha38 (g := (mkF m 31 #[.val (.ref r0), .val (.ref bn2), .val (.int 2)] [(.int 2), (.ref r0), (.double (own_vh4_1 x_r0_1)), (.int 1), (.ref bn2)])) rfl rfl (hb hby own_d1_31) _ ?_
    show Steps p.tables e below (To30.setTop (mkF m 32 #[.val (.ref r0), .val (.ref bn2), .val (.int 2)] [(.double x_r0_2), (.double (own_vh4_1 x_r0_1)), (.int 1), (.ref bn2)])) _
    refine XS.daddS Xo30.here hx rfl (hb hby own_d1_32) rfl nn32_2 rfl ?_
    refine sto39 _ ?_
    refine XS.goto Xo39.here hx rfl (pc0 := 34) (pc' := 69) rfl (hb hby own_d1_34) (by decide) (by decide) ?_
    refine XS.iinc Xo39.here hx rfl (hb hby own_d1_69) rfl (l' := #[.val (.ref r0), .val (.ref bn2), .val (.int 3)]) rfl ?_
    refine XS.goto Xo39.here hx rfl (pc0 := 72) (pc' := 11) rfl (hb hby own_d1_72) (by decide) (by decide) ?_
    refine XS.iloadN Xo39.here hx rfl (hb hby own_d1_11) rfl ?_
    refine XS.aloadN Xo39.here hx rfl (hb hby own_d1_12) rfl rfl ?_
    refine Xo39.arraylength hx (by rw [eo39]; exact Aro42.1) (State.isArrayOf_alike hZ.alike Aro42.2.1) (g := (mkF m 13 #[.val (.ref r0), .val (.ref bn2), .val (.int 3)] [(.ref r0), (.int 3)])) rfl rfl (hb hby own_d1_13) _ ?_
    rw [len_of So42 No42]
    show Steps p.tables e below (To39.setTop (mkF m 14 #[.val (.ref r0), .val (.ref bn2), .val (.int 3)] [(.int 4), (.int 3)])) _
    refine XS.icmpNo Xo39.here hx rfl (hb hby own_d1_14) rfl (XT.ii_ge_f (by decide : (3 : Int32) < (4 : Int32))) ?_
    refine XS.iloadN Xo39.here hx rfl (hb hby own_d1_17) rfl ?_
    refine XS.iconst Xo39.here hx rfl (hb hby own_d1_18) ?_
    refine XS.irem Xo39.here hx rfl (hb hby own_d1_19) rfl (by decide) ?_
    show Steps p.tables e below (To39.setTop (mkF m 20 #[.val (.ref r0), .val (.ref bn2), .val (.int 3)] [(.int 1)])) _
    refine XS.ifYes Xo39.here hx rfl (pc0 := 20) (pc' := 37) rfl (hb hby own_d1_20) rfl (XT.i0_ne_t (by decide : ¬ ((1 : Int32) = (0 : Int32)))) (by decide) (by decide) ?_
    refine XS.aloadN Xo39.here hx rfl (hb hby own_d1_37) rfl rfl ?_
    refine XS.iloadN Xo39.here hx rfl (hb hby own_d1_38) rfl ?_
    refine XS.iconst Xo39.here hx rfl (hb hby own_d1_39) ?_
    refine XS.idiv Xo39.here hx rfl (hb hby own_d1_40) rfl (by decide) ?_
    show Steps p.tables e below (To39.setTop (mkF m 41 #[.val (.ref r0), .val (.ref bn2), .val (.int 3)] [(.int 1), (.ref bn2)])) _
    refine XT.dup2 Xo39.here hx rfl (hb hby own_d1_41) rfl rfl rfl ?_
    refine Xo39.daload hx (j := (1 : Int32)) (v := (.double (own_vh4_2 x_r0_1 x_r0_2))) (by rw [eo39]; exact Aro43.1) (State.isArrayOf_alike hZ.alike Aro43.2.1) Aro43.2.2 hi44 ha45 (g := (mkF m 42 #[.val (.ref r0), .val (.ref bn2), .val (.int 3)] [(.int 1), (.ref bn2), (.int 1), (.ref bn2)])) rfl rfl (hb hby own_d1_42) _ ?_
    refine XS.aloadN Xo39.here hx rfl (hb hby own_d1_43) rfl rfl ?_
    refine XS.iloadN Xo39.here hx rfl (hb hby own_d1_44) rfl ?_
    refine Xo39.daload hx (j := (3 : Int32)) (v := (.double x_r0_3)) (by rw [eo39]; exact Aro42.1) (State.isArrayOf_alike hZ.alike Aro42.2.1) Aro42.2.2 hi46 ha47 (g := (mkF m 45 #[.val (.ref r0), .val (.ref bn2), .val (.int 3)] [(.int 3), (.ref r0), (.double (own_vh4_2 x_r0_1 x_r0_2)), (.int 1), (.ref bn2)])) rfl rfl (hb hby own_d1_45) _ ?_
    show Steps p.tables e below (To39.setTop (mkF m 46 #[.val (.ref r0), .val (.ref bn2), .val (.int 3)] [(.double x_r0_3), (.double (own_vh4_2 x_r0_1 x_r0_2)), (.int 1), (.ref bn2)])) _
    refine Xo39.ldc2DoubleC hx hown (mvT hZ (own_W hw 14 rfl)) (g := (mkF m 46 #[.val (.ref r0), .val (.ref bn2), .val (.int 3)] [(.double x_r0_3), (.double (own_vh4_2 x_r0_1 x_r0_2)), (.int 1), (.ref bn2)])) rfl (hb hby own_d1_46) _ ?_
    refine XS.ddivS Xo39.here hx rfl (hb hby own_d1_49) rfl nn49_2 rfl ?_
    refine XS.daddS Xo39.here hx rfl (hb hby own_d1_50) rfl nn50_2 rfl ?_
    refine sto48 _ ?_
    show Steps p.tables e below (To48.setTop (mkF m 52 #[.val (.ref r0), .val (.ref bn2), .val (.int 3)] [])) _
    refine XS.aloadN Xo48.here hx rfl (hb hby own_d1_52) rfl rfl ?_
    refine XS.iloadN Xo48.here hx rfl (hb hby own_d1_53) rfl ?_
    refine XS.iconst Xo48.here hx rfl (hb hby own_d1_54) ?_
    refine XS.idiv Xo48.here hx rfl (hb hby own_d1_55) rfl (by decide) ?_
    show Steps p.tables e below (To48.setTop (mkF m 56 #[.val (.ref r0), .val (.ref bn2), .val (.int 3)] [(.int 1), (.ref bn2)])) _
    refine XS.iconst Xo48.here hx rfl (hb hby own_d1_56) ?_
    refine XS.iadd Xo48.here hx rfl (hb hby own_d1_57) rfl ?_
    show Steps p.tables e below (To48.setTop (mkF m 58 #[.val (.ref r0), .val (.ref bn2), .val (.int 3)] [(.int 2), (.ref bn2)])) _
    refine XT.dup2 Xo48.here hx rfl (hb hby own_d1_58) rfl rfl rfl ?_
    refine Xo48.daload hx (j := (2 : Int32)) (v := (.double 0)) (by rw [eo48]; exact Aro50.1) (State.isArrayOf_alike hZ.alike Aro50.2.1) Aro50.2.2 hi51 ha52 (g := (mkF m 59 #[.val (.ref r0), .val (.ref bn2), .val (.int 3)] [(.int 2), (.ref bn2), (.int 2), (.ref bn2)])) rfl rfl (hb hby own_d1_59) _ ?_
    refine XS.aloadN Xo48.here hx rfl (hb hby own_d1_60) rfl rfl ?_
    refine XS.iloadN Xo48.here hx rfl (hb hby own_d1_61) rfl ?_
    refine Xo48.daload hx (j := (3 : Int32)) (v := (.double x_r0_3)) (by rw [eo48]; exact Aro54.1) (State.isArrayOf_alike hZ.alike Aro54.2.1) Aro54.2.2 hi55 ha56 (g := (mkF m 62 #[.val (.ref r0), .val (.ref bn2), .val (.int 3)] [(.int 3), (.ref r0), (.double 0), (.int 2), (.ref bn2)])) rfl rfl (hb hby own_d1_62) _ ?_
    show Steps p.tables e below (To48.setTop (mkF m 63 #[.val (.ref r0), .val (.ref bn2), .val (.int 3)] [(.double x_r0_3), (.double 0), (.int 2), (.ref bn2)])) _
    refine Xo48.ldc2DoubleC hx hown (mvT hZ (own_W hw 14 rfl)) (g := (mkF m 63 #[.val (.ref r0), .val (.ref bn2), .val (.int 3)] [(.double x_r0_3), (.double 0), (.int 2), (.ref bn2)])) rfl (hb hby own_d1_63) _ ?_
    refine XS.ddivS Xo48.here hx rfl (hb hby own_d1_66) rfl nn49_2 rfl ?_
    refine XS.daddS Xo48.here hx rfl (hb hby own_d1_67) rfl nn67_2 rfl ?_
    refine sto57 _ ?_
    show Steps p.tables e below (To57.setTop (mkF m 69 #[.val (.ref r0), .val (.ref bn2), .val (.int 3)] [])) _
    refine XS.iinc Xo57.here hx rfl (hb hby own_d1_69) rfl (l' := #[.val (.ref r0), .val (.ref bn2), .val (.int 4)]) rfl ?_
    refine XS.goto Xo57.here hx rfl (pc0 := 72) (pc' := 11) rfl (hb hby own_d1_72) (by decide) (by decide) ?_
    refine XS.iloadN Xo57.here hx rfl (hb hby own_d1_11) rfl ?_
    refine XS.aloadN Xo57.here hx rfl (hb hby own_d1_12) rfl rfl ?_
    refine Xo57.arraylength hx (by rw [eo57]; exact Aro60.1) (State.isArrayOf_alike hZ.alike Aro60.2.1) (g := (mkF m 13 #[.val (.ref r0), .val (.ref bn2), .val (.int 4)] [(.ref r0), (.int 4)])) rfl rfl (hb hby own_d1_13) _ ?_
    rw [len_of So60 No60]
    show Steps p.tables e below (To57.setTop (mkF m 14 #[.val (.ref r0), .val (.ref bn2), .val (.int 4)] [(.int 4), (.int 4)])) _
    refine XS.icmpYes Xo57.here hx rfl (pc0 := 14) (pc' := 75) rfl (hb hby own_d1_14) rfl (XT.ii_ge_t (by decide : ¬ ((4 : Int32) < (4 : Int32)))) (by decide) (by decide) ?_
    refine XS.aloadN Xo57.here hx rfl (hb hby own_d1_75) rfl rfl ?_
    show Steps p.tables e below (To57.setTop (mkF m 76 #[.val (.ref r0), .val (.ref bn2), .val (.int 4)] [(.ref bn2)])) _
    jvm_step Xo57.here [Xo57.here.top, hx, (hb hby own_d1_76), Xo57.method', Bd.returns, Value.isRef, FieldType.isReference]
    first | (intro acts; rw [hr _ acts rfl rfl rfl]) | rw [hr _ _ rfl rfl rfl]
    exact Steps.refl _
  · show own_Qh4 Z r0 k_r0 x_r0_0 x_r0_1 x_r0_2 x_r0_3 h0 n0 _ To57.heap _
    rw [eo57]
    exact ⟨bn2, kn2, rfl, Nfo57, ((((((((Keep.refl h0 []).ext En2).wr Wo11 (Or.inr sz_bn2)).wr Wo21 (Or.inr sz_bn2)).wr Wo30 (Or.inr sz_bn2)).wr Wo39 (Or.inr sz_bn2)).wr Wo48 (Or.inr sz_bn2)).wr Wo57 (Or.inr sz_bn2)), sz_bn2, Vwo57⟩
def own_vh5_0 (x_r0_0 : UInt64) (x_r0_1 : UInt64) : UInt64 := (FP.dadd (FP.dadd (0 : UInt64) x_r0_0) (FP.ddiv x_r0_1 (4611686018427387904 : UInt64)))
def own_vh5_1 (x_r0_1 : UInt64) : UInt64 := (FP.dadd (0 : UInt64) (FP.ddiv x_r0_1 (4611686018427387904 : UInt64)))
def own_vh5_2 (x_r0_1 : UInt64) (x_r0_2 : UInt64) : UInt64 := (FP.dadd (own_vh5_1 x_r0_1) x_r0_2)
def own_vh5_3 (x_r0_1 : UInt64) (x_r0_2 : UInt64) (x_r0_3 : UInt64) : UInt64 := (FP.dadd (own_vh5_2 x_r0_1 x_r0_2) (FP.ddiv x_r0_3 (4611686018427387904 : UInt64)))
def own_vh5_4 (x_r0_3 : UInt64) : UInt64 := (FP.dadd (0 : UInt64) (FP.ddiv x_r0_3 (4611686018427387904 : UInt64)))
def own_vh5_5 (x_r0_3 : UInt64) (x_r0_4 : UInt64) : UInt64 := (FP.dadd (own_vh5_4 x_r0_3) x_r0_4)
theorem own_efh5 (m : MethodId) (r0 : Addr) : entryFrame m #[(.ref r0)] 3 = mkF m 0 #[.val (.ref r0), .unset, .unset] [] := by first | (simp [entryFrame, mkF, argsToLocals, Value.category]; done) | rfl
def own_Qh5 (Z : State) (r0 : Addr) (k_r0 : ClassId) (x_r0_0 : UInt64) (x_r0_1 : UInt64) (x_r0_2 : UInt64) (x_r0_3 : UInt64) (x_r0_4 : UInt64) (h0 : Heap) (n0 : Nat) (v : Option Value) (h : Heap) (L : List Loc) : Prop := ∃ (bn2 : Addr) (kn2 : ClassId), v = some (.ref bn2) ∧ Fr n0 L ∧ Keep h0 h [] ∧ h0.size ≤ bn2 ∧ Arv Z h bn2 kn2 .double (3 : Int32) [(.double (own_vh5_0 x_r0_0 x_r0_1)), (.double (own_vh5_3 x_r0_1 x_r0_2 x_r0_3)), (.double (own_vh5_5 x_r0_3 x_r0_4))] (.double 0)
set_option maxRecDepth 65536 in
set_option maxHeartbeats 40000000 in
theorem own_rmh5 (l : Launch) (Z : State) (a0 : Array Value) (hw : ∀ d ∈ tables_1, d.before a0 Z = true) (ws : List Jvm.Cond) (r0 : Addr) (k_r0 : ClassId) (x_r0_0 : UInt64) (x_r0_1 : UInt64) (x_r0_2 : UInt64) (x_r0_3 : UInt64) (x_r0_4 : UInt64) (h0 : Heap) (n0 : Nat) (Z0 : n0 ≤ h0.size) (V_r0 : Arv Z h0 r0 k_r0 .double (5 : Int32) [(.double x_r0_0), (.double x_r0_1), (.double x_r0_2), (.double x_r0_3), (.double x_r0_4)] (.double 0)) (nn32 : NoNaN64 (FP.dadd (0 : UInt64) x_r0_0)) (nn49 : NoNaN64 (FP.ddiv x_r0_1 (4611686018427387904 : UInt64))) (nn50 : NoNaN64 (FP.dadd (FP.dadd (0 : UInt64) x_r0_0) (FP.ddiv x_r0_1 (4611686018427387904 : UInt64)))) (nn67 : NoNaN64 (FP.dadd (0 : UInt64) (FP.ddiv x_r0_1 (4611686018427387904 : UInt64)))) (nn32_2 : NoNaN64 (FP.dadd (own_vh5_1 x_r0_1) x_r0_2)) (nn49_2 : NoNaN64 (FP.ddiv x_r0_3 (4611686018427387904 : UInt64))) (nn50_2 : NoNaN64 (FP.dadd (own_vh5_2 x_r0_1 x_r0_2) (FP.ddiv x_r0_3 (4611686018427387904 : UInt64)))) (nn67_2 : NoNaN64 (FP.dadd (0 : UInt64) (FP.ddiv x_r0_3 (4611686018427387904 : UInt64)))) (nn32_3 : NoNaN64 (FP.dadd (own_vh5_4 x_r0_3) x_r0_4)) :
    MetFree l (⟨"com/example/surepath/surepath/TravelTime$Lattices", "halved", "([D)[D"⟩ : MethodName) (head1 (Jvm.Cond.code (⟨"com/example/surepath/surepath/TravelTime$Lattices", "halved", "([D)[D"⟩ : MethodName) prog_64_method_16_code 3 (some (.array .double)) :: ws) ({ frames := 0, cells := 1, slots := 3, locals := 0 } : Room)) (fun a U => a = #[(.ref r0)] ∧ Z.Warmed39 U.vm ∧ U.heap = h0) (fun _ _ _ _ _ => True) (fun _ U o U' => ∃ v L, o = .returned v ∧ own_Qh5 Z r0 k_r0 x_r0_0 x_r0_1 x_r0_2 x_r0_3 x_r0_4 h0 n0 v U'.heap L ∧ FrameEnd U o U' L ({ frames := 0, cells := 1, slots := 3, locals := 0 } : Room).cells ({ frames := 0, cells := 1, slots := 3, locals := 0 } : Room).slots) := by
  refine MetFree.of_bodySF (plainFor_of_name own_pn1) hisR ?_
  intro p e s m args below meth c s₁ Bd hml0 hP hK
  obtain ⟨rfl, hZ, hh⟩ := hP
  have hx := Bd.exec
  have hby := Bd.bytes
  have hml : c.maxLocals = 3 := hml0
  have hown : s.vm.findClass "com/example/surepath/surepath/TravelTime$Lattices" = some m.cls := findClass_of_methodNamed Bd.named
  have hnm := (name_of_methodNamed Bd.named Bd.method).1
  have X0 : Stand p l e ({ frames := 0, cells := 1, slots := 3, locals := 0 } : Room) s m #[(.ref r0)] below meth c s₁ [] 0 0 := Stand.of_body Bd
  have e0 : s₁.heap = h0 := by rw [← hh, Bd.state]; rfl
  have N0 := Fr.nil n0
  have Zr : h0.size ≤ h0.size := Nat.le_refl _
  have pre0 : ∀ t, Steps p.tables e below (s₁.setTop (mkF m 0 #[.val (.ref r0), .unset, .unset] [])) t → Steps p.tables e below (s₁.setTop (entryFrame m #[(.ref r0)] 3)) t := fun t k => castTop (own_efh5 m r0) k
  obtain ⟨clo1, Aro1, qo1, So1, No1, Ho1, Go1⟩ := id V_r0
  obtain ⟨Tn2, hn2, kn2, Xn2, en2, En2, An2, stn2⟩ := newP X0 hx hZ (own_W hw 1 rfl) e0 (g := (mkF m 6 #[.val (.ref r0), .unset, .unset] [(.int 3)])) rfl (hb hby own_d1_6) rfl (by decide) (cap := 3) (by decide) (by decide) (by decide) (by decide)
  obtain ⟨bn2, gn2⟩ : ∃ z, z = h0.size := ⟨_, rfl⟩
  rw [← gn2] at An2 stn2
  have g_bn2 : n0 ≤ bn2 := Nat.le_trans Z0 (Nat.le_of_eq gn2.symm)
  have sz_bn2 : h0.size ≤ bn2 := Nat.le_trans Zr (Nat.le_of_eq gn2.symm)
  have sz3 : h0.size ≤ hn2.size := Nat.le_trans Zr En2.1
  have V_bn2 : Arv Z hn2 bn2 kn2 .double (3 : Int32) [(.double 0), (.double 0), (.double 0)] (.double 0) := (Arv.new An2 (by decide)).pad (pad_rep [] (.double 0) 3)
  have F4 := (V_r0.ext En2)
  obtain ⟨clo5, Aro5, qo5, So5, No5, Ho5, Go5⟩ := id F4
  obtain ⟨clo6, Aro6, qo6, So6, No6, Ho6, Go6⟩ := id V_bn2
  have hi7 := inb_of (j := (0 : Int32)) So6 ⟨by decide, by decide⟩
  have ha8 : _ = some (Value.double (0 : UInt64)) := Ho6.at hi7 rfl
  have hi9 := inb_of (j := (0 : Int32)) So5 ⟨by decide, by decide⟩
  have ha10 : _ = some (Value.double x_r0_0) := Ho5.at hi9 rfl
  obtain ⟨To11, ho11, Xo11, eo11, Wo11, sto11⟩ := stD Xn2 hx hZ en2 Aro6 (j := (0 : Int32)) hi7 (g := (mkF m 33 #[.val (.ref r0), .val (.ref bn2), .val (.int 0)] [(.double (FP.dadd (0 : UInt64) x_r0_0)), (.int 0), (.ref bn2)])) rfl rfl (hb hby own_d1_33)
  have Vwo11 : Arv Z ho11 bn2 kn2 .double (3 : Int32) [(.double (FP.dadd (0 : UInt64) x_r0_0)), (.double 0), (.double 0)] (.double 0) := Arv.set Aro6 qo6 So6 No6 Ho6 Go6 rfl Wo11 0 rfl (Nat.le_of_ble_eq_true rfl)
  have sz12 : h0.size ≤ ho11.size := Nat.le_trans sz3 (Nat.le_of_eq Wo11.size.symm)
  have Nfo11 := Fr.snoc Xo11 N0 g_bn2
  have ne13 : bn2 ≠ r0 := (Ne.symm (Nat.ne_of_lt (Nat.lt_of_lt_of_le V_r0.lt (Nat.le_of_eq gn2.symm))))
  have F14 := (F4.other Wo11 (Ne.symm ne13))
  obtain ⟨clo15, Aro15, qo15, So15, No15, Ho15, Go15⟩ := id F14
  obtain ⟨clo16, Aro16, qo16, So16, No16, Ho16, Go16⟩ := id Vwo11
  have hi17 := inb_of (j := (0 : Int32)) So16 ⟨by decide, by decide⟩
  have ha18 : _ = some (Value.double (FP.dadd (0 : UInt64) x_r0_0)) := Ho16.at hi17 rfl
  have hi19 := inb_of (j := (1 : Int32)) So15 ⟨by decide, by decide⟩
  have ha20 : _ = some (Value.double x_r0_1) := Ho15.at hi19 rfl
  obtain ⟨To21, ho21, Xo21, eo21, Wo21, sto21⟩ := stD Xo11 hx hZ eo11 Aro16 (j := (0 : Int32)) hi17 (g := (mkF m 51 #[.val (.ref r0), .val (.ref bn2), .val (.int 1)] [(.double (FP.dadd (FP.dadd (0 : UInt64) x_r0_0) (FP.ddiv x_r0_1 (4611686018427387904 : UInt64)))), (.int 0), (.ref bn2)])) rfl rfl (hb hby own_d1_51)
  have Vwo21 : Arv Z ho21 bn2 kn2 .double (3 : Int32) [(.double (own_vh5_0 x_r0_0 x_r0_1)), (.double 0), (.double 0)] (.double 0) := Arv.set Aro16 qo16 So16 No16 Ho16 Go16 rfl Wo21 0 rfl (Nat.le_of_ble_eq_true rfl)
  have sz22 : h0.size ≤ ho21.size := Nat.le_trans sz12 (Nat.le_of_eq Wo21.size.symm)
  have Nfo21 := Fr.snoc Xo21 Nfo11 g_bn2
  obtain ⟨clo23, Aro23, qo23, So23, No23, Ho23, Go23⟩ := id Vwo21
  have hi24 := inb_of (j := (1 : Int32)) So23 ⟨by decide, by decide⟩
  have ha25 : _ = some (Value.double (0 : UInt64)) := Ho23.at hi24 rfl
  have F26 := (F14.other Wo21 (Ne.symm ne13))
  obtain ⟨clo27, Aro27, qo27, So27, No27, Ho27, Go27⟩ := id F26
  have hi28 := inb_of (j := (1 : Int32)) So27 ⟨by decide, by decide⟩
  have ha29 : _ = some (Value.double x_r0_1) := Ho27.at hi28 rfl
  obtain ⟨To30, ho30, Xo30, eo30, Wo30, sto30⟩ := stD Xo21 hx hZ eo21 Aro23 (j := (1 : Int32)) hi24 (g := (mkF m 68 #[.val (.ref r0), .val (.ref bn2), .val (.int 1)] [(.double (FP.dadd (0 : UInt64) (FP.ddiv x_r0_1 (4611686018427387904 : UInt64)))), (.int 1), (.ref bn2)])) rfl rfl (hb hby own_d1_68)
  have Vwo30 : Arv Z ho30 bn2 kn2 .double (3 : Int32) [(.double (own_vh5_0 x_r0_0 x_r0_1)), (.double (own_vh5_1 x_r0_1)), (.double 0)] (.double 0) := Arv.set Aro23 qo23 So23 No23 Ho23 Go23 rfl Wo30 1 rfl (Nat.le_of_ble_eq_true rfl)
  have sz31 : h0.size ≤ ho30.size := Nat.le_trans sz22 (Nat.le_of_eq Wo30.size.symm)
  have Nfo30 := Fr.snoc Xo30 Nfo21 g_bn2
  have F32 := (F26.other Wo30 (Ne.symm ne13))
  obtain ⟨clo33, Aro33, qo33, So33, No33, Ho33, Go33⟩ := id F32
  obtain ⟨clo34, Aro34, qo34, So34, No34, Ho34, Go34⟩ := id Vwo30
  have hi35 := inb_of (j := (1 : Int32)) So34 ⟨by decide, by decide⟩
  have ha36 : _ = some (Value.double (own_vh5_1 x_r0_1)) := Ho34.at hi35 rfl
  have hi37 := inb_of (j := (2 : Int32)) So33 ⟨by decide, by decide⟩
  have ha38 : _ = some (Value.double x_r0_2) := Ho33.at hi37 rfl
  obtain ⟨To39, ho39, Xo39, eo39, Wo39, sto39⟩ := stD Xo30 hx hZ eo30 Aro34 (j := (1 : Int32)) hi35 (g := (mkF m 33 #[.val (.ref r0), .val (.ref bn2), .val (.int 2)] [(.double (FP.dadd (own_vh5_1 x_r0_1) x_r0_2)), (.int 1), (.ref bn2)])) rfl rfl (hb hby own_d1_33)
  have Vwo39 : Arv Z ho39 bn2 kn2 .double (3 : Int32) [(.double (own_vh5_0 x_r0_0 x_r0_1)), (.double (own_vh5_2 x_r0_1 x_r0_2)), (.double 0)] (.double 0) := Arv.set Aro34 qo34 So34 No34 Ho34 Go34 rfl Wo39 1 rfl (Nat.le_of_ble_eq_true rfl)
  have sz40 : h0.size ≤ ho39.size := Nat.le_trans sz31 (Nat.le_of_eq Wo39.size.symm)
  have Nfo39 := Fr.snoc Xo39 Nfo30 g_bn2
  have F41 := (F32.other Wo39 (Ne.symm ne13))
  obtain ⟨clo42, Aro42, qo42, So42, No42, Ho42, Go42⟩ := id F41
  obtain ⟨clo43, Aro43, qo43, So43, No43, Ho43, Go43⟩ := id Vwo39
  have hi44 := inb_of (j := (1 : Int32)) So43 ⟨by decide, by decide⟩
  have ha45 : _ = some (Value.double (own_vh5_2 x_r0_1 x_r0_2)) := Ho43.at hi44 rfl
  have hi46 := inb_of (j := (3 : Int32)) So42 ⟨by decide, by decide⟩
  have ha47 : _ = some (Value.double x_r0_3) := Ho42.at hi46 rfl
  obtain ⟨To48, ho48, Xo48, eo48, Wo48, sto48⟩ := stD Xo39 hx hZ eo39 Aro43 (j := (1 : Int32)) hi44 (g := (mkF m 51 #[.val (.ref r0), .val (.ref bn2), .val (.int 3)] [(.double (FP.dadd (own_vh5_2 x_r0_1 x_r0_2) (FP.ddiv x_r0_3 (4611686018427387904 : UInt64)))), (.int 1), (.ref bn2)])) rfl rfl (hb hby own_d1_51)
  have Vwo48 : Arv Z ho48 bn2 kn2 .double (3 : Int32) [(.double (own_vh5_0 x_r0_0 x_r0_1)), (.double (own_vh5_3 x_r0_1 x_r0_2 x_r0_3)), (.double 0)] (.double 0) := Arv.set Aro43 qo43 So43 No43 Ho43 Go43 rfl Wo48 1 rfl (Nat.le_of_ble_eq_true rfl)
  have sz49 : h0.size ≤ ho48.size := Nat.le_trans sz40 (Nat.le_of_eq Wo48.size.symm)
  have Nfo48 := Fr.snoc Xo48 Nfo39 g_bn2
  obtain ⟨clo50, Aro50, qo50, So50, No50, Ho50, Go50⟩ := id Vwo48
  have hi51 := inb_of (j := (2 : Int32)) So50 ⟨by decide, by decide⟩
  have ha52 : _ = some (Value.double (0 : UInt64)) := Ho50.at hi51 rfl
  have F53 := (F41.other Wo48 (Ne.symm ne13))
  obtain ⟨clo54, Aro54, qo54, So54, No54, Ho54, Go54⟩ := id F53
  have hi55 := inb_of (j := (3 : Int32)) So54 ⟨by decide, by decide⟩
  have ha56 : _ = some (Value.double x_r0_3) := Ho54.at hi55 rfl
  obtain ⟨To57, ho57, Xo57, eo57, Wo57, sto57⟩ := stD Xo48 hx hZ eo48 Aro50 (j := (2 : Int32)) hi51 (g := (mkF m 68 #[.val (.ref r0), .val (.ref bn2), .val (.int 3)] [(.double (FP.dadd (0 : UInt64) (FP.ddiv x_r0_3 (4611686018427387904 : UInt64)))), (.int 2), (.ref bn2)])) rfl rfl (hb hby own_d1_68)
  have Vwo57 : Arv Z ho57 bn2 kn2 .double (3 : Int32) [(.double (own_vh5_0 x_r0_0 x_r0_1)), (.double (own_vh5_3 x_r0_1 x_r0_2 x_r0_3)), (.double (own_vh5_4 x_r0_3))] (.double 0) := Arv.set Aro50 qo50 So50 No50 Ho50 Go50 rfl Wo57 2 rfl (Nat.le_of_ble_eq_true rfl)
  have sz58 : h0.size ≤ ho57.size := Nat.le_trans sz49 (Nat.le_of_eq Wo57.size.symm)
  have Nfo57 := Fr.snoc Xo57 Nfo48 g_bn2
  have F59 := (F53.other Wo57 (Ne.symm ne13))
  obtain ⟨clo60, Aro60, qo60, So60, No60, Ho60, Go60⟩ := id F59
  obtain ⟨clo61, Aro61, qo61, So61, No61, Ho61, Go61⟩ := id Vwo57
  have hi62 := inb_of (j := (2 : Int32)) So61 ⟨by decide, by decide⟩
  have ha63 : _ = some (Value.double (own_vh5_4 x_r0_3)) := Ho61.at hi62 rfl
  have hi64 := inb_of (j := (4 : Int32)) So60 ⟨by decide, by decide⟩
  have ha65 : _ = some (Value.double x_r0_4) := Ho60.at hi64 rfl
  obtain ⟨To66, ho66, Xo66, eo66, Wo66, sto66⟩ := stD Xo57 hx hZ eo57 Aro61 (j := (2 : Int32)) hi62 (g := (mkF m 33 #[.val (.ref r0), .val (.ref bn2), .val (.int 4)] [(.double (FP.dadd (own_vh5_4 x_r0_3) x_r0_4)), (.int 2), (.ref bn2)])) rfl rfl (hb hby own_d1_33)
  have Vwo66 : Arv Z ho66 bn2 kn2 .double (3 : Int32) [(.double (own_vh5_0 x_r0_0 x_r0_1)), (.double (own_vh5_3 x_r0_1 x_r0_2 x_r0_3)), (.double (own_vh5_5 x_r0_3 x_r0_4))] (.double 0) := Arv.set Aro61 qo61 So61 No61 Ho61 Go61 rfl Wo66 2 rfl (Nat.le_of_ble_eq_true rfl)
  have sz67 : h0.size ≤ ho66.size := Nat.le_trans sz58 (Nat.le_of_eq Wo66.size.symm)
  have Nfo66 := Fr.snoc Xo66 Nfo57 g_bn2
  have F68 := (F59.other Wo66 (Ne.symm ne13))
  obtain ⟨clo69, Aro69, qo69, So69, No69, Ho69, Go69⟩ := id F68
  obtain ⟨fs, hr, hrun, hended, hW, hsame⟩ := Xo66.leave (v := some (.ref bn2)) (fun h => by rw [Bd.returns] at h; cases h)
  refine ⟨_, _, pre0 _ (?_), hrun, hended, _, _, rfl, ?_, ⟨_, rfl⟩, hW, hsame.mono (by decide) (by decide)⟩
  · show Steps p.tables e below (s₁.setTop (mkF m 0 #[.val (.ref r0), .unset, .unset] [])) _
    refine XS.aloadN X0.here hx rfl (hb hby own_d1_0) rfl rfl ?_
    refine X0.arraylength hx (by rw [e0]; exact Aro1.1) (State.isArrayOf_alike hZ.alike Aro1.2.1) (g := (mkF m 1 #[.val (.ref r0), .unset, .unset] [(.ref r0)])) rfl rfl (hb hby own_d1_1) _ ?_
    rw [len_of So1 No1]
    show Steps p.tables e below (s₁.setTop (mkF m 2 #[.val (.ref r0), .unset, .unset] [(.int 5)])) _
    refine XS.iconst X0.here hx rfl (hb hby own_d1_2) ?_
    refine XS.idiv X0.here hx rfl (hb hby own_d1_3) rfl (by decide) ?_
    refine XS.iconst X0.here hx rfl (hb hby own_d1_4) ?_
    refine XS.iadd X0.here hx rfl (hb hby own_d1_5) rfl ?_
    show Steps p.tables e below (s₁.setTop (mkF m 6 #[.val (.ref r0), .unset, .unset] [(.int 3)])) _
    refine stn2 _ ?_
    refine XS.astoreN Xn2.here hx rfl (hb hby own_d1_8) rfl rfl (l' := #[.val (.ref r0), .val (.ref bn2), .unset]) rfl ?_
    refine XS.iconst Xn2.here hx rfl (hb hby own_d1_9) ?_
    refine XS.istoreN Xn2.here hx rfl (hb hby own_d1_10) rfl (l' := #[.val (.ref r0), .val (.ref bn2), .val (.int 0)]) rfl ?_
    refine XS.iloadN Xn2.here hx rfl (hb hby own_d1_11) rfl ?_
    refine XS.aloadN Xn2.here hx rfl (hb hby own_d1_12) rfl rfl ?_
    refine Xn2.arraylength hx (by rw [en2]; exact Aro5.1) (State.isArrayOf_alike hZ.alike Aro5.2.1) (g := (mkF m 13 #[.val (.ref r0), .val (.ref bn2), .val (.int 0)] [(.ref r0), (.int 0)])) rfl rfl (hb hby own_d1_13) _ ?_
    rw [len_of So5 No5]
    show Steps p.tables e below (Tn2.setTop (mkF m 14 #[.val (.ref r0), .val (.ref bn2), .val (.int 0)] [(.int 5), (.int 0)])) _
    refine XS.icmpNo Xn2.here hx rfl (hb hby own_d1_14) rfl (XT.ii_ge_f (by decide : (0 : Int32) < (5 : Int32))) ?_
    refine XS.iloadN Xn2.here hx rfl (hb hby own_d1_17) rfl ?_
    refine XS.iconst Xn2.here hx rfl (hb hby own_d1_18) ?_
    refine XS.irem Xn2.here hx rfl (hb hby own_d1_19) rfl (by decide) ?_
    show Steps p.tables e below (Tn2.setTop (mkF m 20 #[.val (.ref r0), .val (.ref bn2), .val (.int 0)] [(.int 0)])) _
    refine XS.ifNo Xn2.here hx rfl (hb hby own_d1_20) rfl (XT.i0_ne_f (by decide : (0 : Int32) = (0 : Int32))) ?_
    refine XS.aloadN Xn2.here hx rfl (hb hby own_d1_23) rfl rfl ?_
    refine XS.iloadN Xn2.here hx rfl (hb hby own_d1_24) rfl ?_
    refine XS.iconst Xn2.here hx rfl (hb hby own_d1_25) ?_
    refine XS.idiv Xn2.here hx rfl (hb hby own_d1_26) rfl (by decide) ?_
    show Steps p.tables e below (Tn2.setTop (mkF m 27 #[.val (.ref r0), .val (.ref bn2), .val (.int 0)] [(.int 0), (.ref bn2)])) _
    refine XT.dup2 Xn2.here hx rfl (hb hby own_d1_27) rfl rfl rfl ?_
    refine Xn2.daload hx (j := (0 : Int32)) (v := (.double 0)) (by rw [en2]; exact Aro6.1) (State.isArrayOf_alike hZ.alike Aro6.2.1) Aro6.2.2 hi7 ha8 (g := (mkF m 28 #[.val (.ref r0), .val (.ref bn2), .val (.int 0)] [(.int 0), (.ref bn2), (.int 0), (.ref bn2)])) rfl rfl (hb hby own_d1_28) _ ?_
    refine XS.aloadN Xn2.here hx rfl (hb hby own_d1_29) rfl rfl ?_
    refine XS.iloadN Xn2.here hx rfl (hb hby own_d1_30) rfl ?_
    refine Xn2.daload hx (j := (0 : Int32)) (v := (.double x_r0_0)) (by rw [en2]; exact Aro5.1) (State.isArrayOf_alike hZ.alike Aro5.2.1) Aro5.2.2 hi9 ha10 (g := (mkF m 31 #[.val (.ref r0), .val (.ref bn2), .val (.int 0)] [(.int 0), (.ref r0), (.double 0), (.int 0), (.ref bn2)])) rfl rfl (hb hby own_d1_31) _ ?_
    show Steps p.tables e below (Tn2.setTop (mkF m 32 #[.val (.ref r0), .val (.ref bn2), .val (.int 0)] [(.double x_r0_0), (.double 0), (.int 0), (.ref bn2)])) _
    refine XS.daddS Xn2.here hx rfl (hb hby own_d1_32) rfl nn32 rfl ?_
    refine sto11 _ ?_
    refine XS.goto Xo11.here hx rfl (pc0 := 34) (pc' := 69) rfl (hb hby own_d1_34) (by decide) (by decide) ?_
    refine XS.iinc Xo11.here hx rfl (hb hby own_d1_69) rfl (l' := #[.val (.ref r0), .val (.ref bn2), .val (.int 1)]) rfl ?_
    refine XS.goto Xo11.here hx rfl (pc0 := 72) (pc' := 11) rfl (hb hby own_d1_72) (by decide) (by decide) ?_
    refine XS.iloadN Xo11.here hx rfl (hb hby own_d1_11) rfl ?_
    refine XS.aloadN Xo11.here hx rfl (hb hby own_d1_12) rfl rfl ?_
    refine Xo11.arraylength hx (by rw [eo11]; exact Aro15.1) (State.isArrayOf_alike hZ.alike Aro15.2.1) (g := (mkF m 13 #[.val (.ref r0), .val (.ref bn2), .val (.int 1)] [(.ref r0), (.int 1)])) rfl rfl (hb hby own_d1_13) _ ?_
    rw [len_of So15 No15]
    show Steps p.tables e below (To11.setTop (mkF m 14 #[.val (.ref r0), .val (.ref bn2), .val (.int 1)] [(.int 5), (.int 1)])) _
    refine XS.icmpNo Xo11.here hx rfl (hb hby own_d1_14) rfl (XT.ii_ge_f (by decide : (1 : Int32) < (5 : Int32))) ?_
    refine XS.iloadN Xo11.here hx rfl (hb hby own_d1_17) rfl ?_
    refine XS.iconst Xo11.here hx rfl (hb hby own_d1_18) ?_
    refine XS.irem Xo11.here hx rfl (hb hby own_d1_19) rfl (by decide) ?_
    show Steps p.tables e below (To11.setTop (mkF m 20 #[.val (.ref r0), .val (.ref bn2), .val (.int 1)] [(.int 1)])) _
    refine XS.ifYes Xo11.here hx rfl (pc0 := 20) (pc' := 37) rfl (hb hby own_d1_20) rfl (XT.i0_ne_t (by decide : ¬ ((1 : Int32) = (0 : Int32)))) (by decide) (by decide) ?_
    refine XS.aloadN Xo11.here hx rfl (hb hby own_d1_37) rfl rfl ?_
    refine XS.iloadN Xo11.here hx rfl (hb hby own_d1_38) rfl ?_
    refine XS.iconst Xo11.here hx rfl (hb hby own_d1_39) ?_
    refine XS.idiv Xo11.here hx rfl (hb hby own_d1_40) rfl (by decide) ?_
    show Steps p.tables e below (To11.setTop (mkF m 41 #[.val (.ref r0), .val (.ref bn2), .val (.int 1)] [(.int 0), (.ref bn2)])) _
    refine XT.dup2 Xo11.here hx rfl (hb hby own_d1_41) rfl rfl rfl ?_
    refine Xo11.daload hx (j := (0 : Int32)) (v := (.double (FP.dadd (0 : UInt64) x_r0_0))) (by rw [eo11]; exact Aro16.1) (State.isArrayOf_alike hZ.alike Aro16.2.1) Aro16.2.2 hi17 ha18 (g := (mkF m 42 #[.val (.ref r0), .val (.ref bn2), .val (.int 1)] [(.int 0), (.ref bn2), (.int 0), (.ref bn2)])) rfl rfl (hb hby own_d1_42) _ ?_
    refine XS.aloadN Xo11.here hx rfl (hb hby own_d1_43) rfl rfl ?_
    refine XS.iloadN Xo11.here hx rfl (hb hby own_d1_44) rfl ?_
    refine Xo11.daload hx (j := (1 : Int32)) (v := (.double x_r0_1)) (by rw [eo11]; exact Aro15.1) (State.isArrayOf_alike hZ.alike Aro15.2.1) Aro15.2.2 hi19 ha20 (g := (mkF m 45 #[.val (.ref r0), .val (.ref bn2), .val (.int 1)] [(.int 1), (.ref r0), (.double (FP.dadd (0 : UInt64) x_r0_0)), (.int 0), (.ref bn2)])) rfl rfl (hb hby own_d1_45) _ ?_
    show Steps p.tables e below (To11.setTop (mkF m 46 #[.val (.ref r0), .val (.ref bn2), .val (.int 1)] [(.double x_r0_1), (.double (FP.dadd (0 : UInt64) x_r0_0)), (.int 0), (.ref bn2)])) _
    refine Xo11.ldc2DoubleC hx hown (mvT hZ (own_W hw 14 rfl)) (g := (mkF m 46 #[.val (.ref r0), .val (.ref bn2), .val (.int 1)] [(.double x_r0_1), (.double (FP.dadd (0 : UInt64) x_r0_0)), (.int 0), (.ref bn2)])) rfl (hb hby own_d1_46) _ ?_
    refine XS.ddivS Xo11.here hx rfl (hb hby own_d1_49) rfl nn49 rfl ?_
    refine XS.daddS Xo11.here hx rfl (hb hby own_d1_50) rfl nn50 rfl ?_
    refine sto21 _ ?_
    show Steps p.tables e below (To21.setTop (mkF m 52 #[.val (.ref r0), .val (.ref bn2), .val (.int 1)] [])) _
    refine XS.aloadN Xo21.here hx rfl (hb hby own_d1_52) rfl rfl ?_
    refine XS.iloadN Xo21.here hx rfl (hb hby own_d1_53) rfl ?_
    refine XS.iconst Xo21.here hx rfl (hb hby own_d1_54) ?_
    refine XS.idiv Xo21.here hx rfl (hb hby own_d1_55) rfl (by decide) ?_
    show Steps p.tables e below (To21.setTop (mkF m 56 #[.val (.ref r0), .val (.ref bn2), .val (.int 1)] [(.int 0), (.ref bn2)])) _
    refine XS.iconst Xo21.here hx rfl (hb hby own_d1_56) ?_
    refine XS.iadd Xo21.here hx rfl (hb hby own_d1_57) rfl ?_
    show Steps p.tables e below (To21.setTop (mkF m 58 #[.val (.ref r0), .val (.ref bn2), .val (.int 1)] [(.int 1), (.ref bn2)])) _
    refine XT.dup2 Xo21.here hx rfl (hb hby own_d1_58) rfl rfl rfl ?_
    refine Xo21.daload hx (j := (1 : Int32)) (v := (.double 0)) (by rw [eo21]; exact Aro23.1) (State.isArrayOf_alike hZ.alike Aro23.2.1) Aro23.2.2 hi24 ha25 (g := (mkF m 59 #[.val (.ref r0), .val (.ref bn2), .val (.int 1)] [(.int 1), (.ref bn2), (.int 1), (.ref bn2)])) rfl rfl (hb hby own_d1_59) _ ?_
    refine XS.aloadN Xo21.here hx rfl (hb hby own_d1_60) rfl rfl ?_
    refine XS.iloadN Xo21.here hx rfl (hb hby own_d1_61) rfl ?_
    refine Xo21.daload hx (j := (1 : Int32)) (v := (.double x_r0_1)) (by rw [eo21]; exact Aro27.1) (State.isArrayOf_alike hZ.alike Aro27.2.1) Aro27.2.2 hi28 ha29 (g := (mkF m 62 #[.val (.ref r0), .val (.ref bn2), .val (.int 1)] [(.int 1), (.ref r0), (.double 0), (.int 1), (.ref bn2)])) rfl rfl (hb hby own_d1_62) _ ?_
    show Steps p.tables e below (To21.setTop (mkF m 63 #[.val (.ref r0), .val (.ref bn2), .val (.int 1)] [(.double x_r0_1), (.double 0), (.int 1), (.ref bn2)])) _
    refine Xo21.ldc2DoubleC hx hown (mvT hZ (own_W hw 14 rfl)) (g := (mkF m 63 #[.val (.ref r0), .val (.ref bn2), .val (.int 1)] [(.double x_r0_1), (.double 0), (.int 1), (.ref bn2)])) rfl (hb hby own_d1_63) _ ?_
    refine XS.ddivS Xo21.here hx rfl (hb hby own_d1_66) rfl nn49 rfl ?_
    refine XS.daddS Xo21.here hx rfl (hb hby own_d1_67) rfl nn67 rfl ?_
    refine sto30 _ ?_
    show Steps p.tables e below (To30.setTop (mkF m 69 #[.val (.ref r0), .val (.ref bn2), .val (.int 1)] [])) _
    refine XS.iinc Xo30.here hx rfl (hb hby own_d1_69) rfl (l' := #[.val (.ref r0), .val (.ref bn2), .val (.int 2)]) rfl ?_
    refine XS.goto Xo30.here hx rfl (pc0 := 72) (pc' := 11) rfl (hb hby own_d1_72) (by decide) (by decide) ?_
    refine XS.iloadN Xo30.here hx rfl (hb hby own_d1_11) rfl ?_
    refine XS.aloadN Xo30.here hx rfl (hb hby own_d1_12) rfl rfl ?_
    refine Xo30.arraylength hx (by rw [eo30]; exact Aro33.1) (State.isArrayOf_alike hZ.alike Aro33.2.1) (g := (mkF m 13 #[.val (.ref r0), .val (.ref bn2), .val (.int 2)] [(.ref r0), (.int 2)])) rfl rfl (hb hby own_d1_13) _ ?_
    rw [len_of So33 No33]
    show Steps p.tables e below (To30.setTop (mkF m 14 #[.val (.ref r0), .val (.ref bn2), .val (.int 2)] [(.int 5), (.int 2)])) _
    refine XS.icmpNo Xo30.here hx rfl (hb hby own_d1_14) rfl (XT.ii_ge_f (by decide : (2 : Int32) < (5 : Int32))) ?_
    refine XS.iloadN Xo30.here hx rfl (hb hby own_d1_17) rfl ?_
    refine XS.iconst Xo30.here hx rfl (hb hby own_d1_18) ?_
    refine XS.irem Xo30.here hx rfl (hb hby own_d1_19) rfl (by decide) ?_
    show Steps p.tables e below (To30.setTop (mkF m 20 #[.val (.ref r0), .val (.ref bn2), .val (.int 2)] [(.int 0)])) _
    refine XS.ifNo Xo30.here hx rfl (hb hby own_d1_20) rfl (XT.i0_ne_f (by decide : (0 : Int32) = (0 : Int32))) ?_
    refine XS.aloadN Xo30.here hx rfl (hb hby own_d1_23) rfl rfl ?_
    refine XS.iloadN Xo30.here hx rfl (hb hby own_d1_24) rfl ?_
    refine XS.iconst Xo30.here hx rfl (hb hby own_d1_25) ?_
    refine XS.idiv Xo30.here hx rfl (hb hby own_d1_26) rfl (by decide) ?_
    show Steps p.tables e below (To30.setTop (mkF m 27 #[.val (.ref r0), .val (.ref bn2), .val (.int 2)] [(.int 1), (.ref bn2)])) _
    refine XT.dup2 Xo30.here hx rfl (hb hby own_d1_27) rfl rfl rfl ?_
    refine Xo30.daload hx (j := (1 : Int32)) (v := (.double (own_vh5_1 x_r0_1))) (by rw [eo30]; exact Aro34.1) (State.isArrayOf_alike hZ.alike Aro34.2.1) Aro34.2.2 hi35 ha36 (g := (mkF m 28 #[.val (.ref r0), .val (.ref bn2), .val (.int 2)] [(.int 1), (.ref bn2), (.int 1), (.ref bn2)])) rfl rfl (hb hby own_d1_28) _ ?_
    refine XS.aloadN Xo30.here hx rfl (hb hby own_d1_29) rfl rfl ?_
    refine XS.iloadN Xo30.here hx rfl (hb hby own_d1_30) rfl ?_
    refine Xo30.daload hx (j := (2 : Int32)) (v := (.double x_r0_2)) (by rw [eo30]; exact Aro33.1) (State.isArrayOf_alike hZ.alike Aro33.2.1) Aro33.2.2 hi37 ha38 (g := (mkF m 31 #[.val (.ref r0), .val (.ref bn2), .val (.int 2)] [(.int 2), (.ref r0), (.double (own_vh5_1 x_r0_1)), (.int 1), (.ref bn2)])) rfl rfl (hb hby own_d1_31) _ ?_
    show Steps p.tables e below (To30.setTop (mkF m 32 #[.val (.ref r0), .val (.ref bn2), .val (.int 2)] [(.double x_r0_2), (.double (own_vh5_1 x_r0_1)), (.int 1), (.ref bn2)])) _
    refine XS.daddS Xo30.here hx rfl (hb hby own_d1_32) rfl nn32_2 rfl ?_
    refine sto39 _ ?_
    refine XS.goto Xo39.here hx rfl (pc0 := 34) (pc' := 69) rfl (hb hby own_d1_34) (by decide) (by decide) ?_
    refine XS.iinc Xo39.here hx rfl (hb hby own_d1_69) rfl (l' := #[.val (.ref r0), .val (.ref bn2), .val (.int 3)]) rfl ?_
    refine XS.goto Xo39.here hx rfl (pc0 := 72) (pc' := 11) rfl (hb hby own_d1_72) (by decide) (by decide) ?_
    refine XS.iloadN Xo39.here hx rfl (hb hby own_d1_11) rfl ?_
    refine XS.aloadN Xo39.here hx rfl (hb hby own_d1_12) rfl rfl ?_
    refine Xo39.arraylength hx (by rw [eo39]; exact Aro42.1) (State.isArrayOf_alike hZ.alike Aro42.2.1) (g := (mkF m 13 #[.val (.ref r0), .val (.ref bn2), .val (.int 3)] [(.ref r0), (.int 3)])) rfl rfl (hb hby own_d1_13) _ ?_
    rw [len_of So42 No42]
    show Steps p.tables e below (To39.setTop (mkF m 14 #[.val (.ref r0), .val (.ref bn2), .val (.int 3)] [(.int 5), (.int 3)])) _
    refine XS.icmpNo Xo39.here hx rfl (hb hby own_d1_14) rfl (XT.ii_ge_f (by decide : (3 : Int32) < (5 : Int32))) ?_
    refine XS.iloadN Xo39.here hx rfl (hb hby own_d1_17) rfl ?_
    refine XS.iconst Xo39.here hx rfl (hb hby own_d1_18) ?_
    refine XS.irem Xo39.here hx rfl (hb hby own_d1_19) rfl (by decide) ?_
    show Steps p.tables e below (To39.setTop (mkF m 20 #[.val (.ref r0), .val (.ref bn2), .val (.int 3)] [(.int 1)])) _
    refine XS.ifYes Xo39.here hx rfl (pc0 := 20) (pc' := 37) rfl (hb hby own_d1_20) rfl (XT.i0_ne_t (by decide : ¬ ((1 : Int32) = (0 : Int32)))) (by decide) (by decide) ?_
    refine XS.aloadN Xo39.here hx rfl (hb hby own_d1_37) rfl rfl ?_
    refine XS.iloadN Xo39.here hx rfl (hb hby own_d1_38) rfl ?_
    refine XS.iconst Xo39.here hx rfl (hb hby own_d1_39) ?_
    refine XS.idiv Xo39.here hx rfl (hb hby own_d1_40) rfl (by decide) ?_
    show Steps p.tables e below (To39.setTop (mkF m 41 #[.val (.ref r0), .val (.ref bn2), .val (.int 3)] [(.int 1), (.ref bn2)])) _
    refine XT.dup2 Xo39.here hx rfl (hb hby own_d1_41) rfl rfl rfl ?_
    refine Xo39.daload hx (j := (1 : Int32)) (v := (.double (own_vh5_2 x_r0_1 x_r0_2))) (by rw [eo39]; exact Aro43.1) (State.isArrayOf_alike hZ.alike Aro43.2.1) Aro43.2.2 hi44 ha45 (g := (mkF m 42 #[.val (.ref r0), .val (.ref bn2), .val (.int 3)] [(.int 1), (.ref bn2), (.int 1), (.ref bn2)])) rfl rfl (hb hby own_d1_42) _ ?_
    refine XS.aloadN Xo39.here hx rfl (hb hby own_d1_43) rfl rfl ?_
    refine XS.iloadN Xo39.here hx rfl (hb hby own_d1_44) rfl ?_
    refine Xo39.daload hx (j := (3 : Int32)) (v := (.double x_r0_3)) (by rw [eo39]; exact Aro42.1) (State.isArrayOf_alike hZ.alike Aro42.2.1) Aro42.2.2 hi46 ha47 (g := (mkF m 45 #[.val (.ref r0), .val (.ref bn2), .val (.int 3)] [(.int 3), (.ref r0), (.double (own_vh5_2 x_r0_1 x_r0_2)), (.int 1), (.ref bn2)])) rfl rfl (hb hby own_d1_45) _ ?_
    show Steps p.tables e below (To39.setTop (mkF m 46 #[.val (.ref r0), .val (.ref bn2), .val (.int 3)] [(.double x_r0_3), (.double (own_vh5_2 x_r0_1 x_r0_2)), (.int 1), (.ref bn2)])) _
    refine Xo39.ldc2DoubleC hx hown (mvT hZ (own_W hw 14 rfl)) (g := (mkF m 46 #[.val (.ref r0), .val (.ref bn2), .val (.int 3)] [(.double x_r0_3), (.double (own_vh5_2 x_r0_1 x_r0_2)), (.int 1), (.ref bn2)])) rfl (hb hby own_d1_46) _ ?_
    refine XS.ddivS Xo39.here hx rfl (hb hby own_d1_49) rfl nn49_2 rfl ?_
    refine XS.daddS Xo39.here hx rfl (hb hby own_d1_50) rfl nn50_2 rfl ?_
    refine sto48 _ ?_
    show Steps p.tables e below (To48.setTop (mkF m 52 #[.val (.ref r0), .val (.ref bn2), .val (.int 3)] [])) _
    refine XS.aloadN Xo48.here hx rfl (hb hby own_d1_52) rfl rfl ?_
    refine XS.iloadN Xo48.here hx rfl (hb hby own_d1_53) rfl ?_
    refine XS.iconst Xo48.here hx rfl (hb hby own_d1_54) ?_
    refine XS.idiv Xo48.here hx rfl (hb hby own_d1_55) rfl (by decide) ?_
    show Steps p.tables e below (To48.setTop (mkF m 56 #[.val (.ref r0), .val (.ref bn2), .val (.int 3)] [(.int 1), (.ref bn2)])) _
    refine XS.iconst Xo48.here hx rfl (hb hby own_d1_56) ?_
    refine XS.iadd Xo48.here hx rfl (hb hby own_d1_57) rfl ?_
    show Steps p.tables e below (To48.setTop (mkF m 58 #[.val (.ref r0), .val (.ref bn2), .val (.int 3)] [(.int 2), (.ref bn2)])) _
    refine XT.dup2 Xo48.here hx rfl (hb hby own_d1_58) rfl rfl rfl ?_
    refine Xo48.daload hx (j := (2 : Int32)) (v := (.double 0)) (by rw [eo48]; exact Aro50.1) (State.isArrayOf_alike hZ.alike Aro50.2.1) Aro50.2.2 hi51 ha52 (g := (mkF m 59 #[.val (.ref r0), .val (.ref bn2), .val (.int 3)] [(.int 2), (.ref bn2), (.int 2), (.ref bn2)])) rfl rfl (hb hby own_d1_59) _ ?_
    refine XS.aloadN Xo48.here hx rfl (hb hby own_d1_60) rfl rfl ?_
    refine XS.iloadN Xo48.here hx rfl (hb hby own_d1_61) rfl ?_
    refine Xo48.daload hx (j := (3 : Int32)) (v := (.double x_r0_3)) (by rw [eo48]; exact Aro54.1) (State.isArrayOf_alike hZ.alike Aro54.2.1) Aro54.2.2 hi55 ha56 (g := (mkF m 62 #[.val (.ref r0), .val (.ref bn2), .val (.int 3)] [(.int 3), (.ref r0), (.double 0), (.int 2), (.ref bn2)])) rfl rfl (hb hby own_d1_62) _ ?_
    show Steps p.tables e below (To48.setTop (mkF m 63 #[.val (.ref r0), .val (.ref bn2), .val (.int 3)] [(.double x_r0_3), (.double 0), (.int 2), (.ref bn2)])) _
    refine Xo48.ldc2DoubleC hx hown (mvT hZ (own_W hw 14 rfl)) (g := (mkF m 63 #[.val (.ref r0), .val (.ref bn2), .val (.int 3)] [(.double x_r0_3), (.double 0), (.int 2), (.ref bn2)])) rfl (hb hby own_d1_63) _ ?_
    refine XS.ddivS Xo48.here hx rfl (hb hby own_d1_66) rfl nn49_2 rfl ?_
    refine XS.daddS Xo48.here hx rfl (hb hby own_d1_67) rfl nn67_2 rfl ?_
    refine sto57 _ ?_
    show Steps p.tables e below (To57.setTop (mkF m 69 #[.val (.ref r0), .val (.ref bn2), .val (.int 3)] [])) _
    refine XS.iinc Xo57.here hx rfl (hb hby own_d1_69) rfl (l' := #[.val (.ref r0), .val (.ref bn2), .val (.int 4)]) rfl ?_
    refine XS.goto Xo57.here hx rfl (pc0 := 72) (pc' := 11) rfl (hb hby own_d1_72) (by decide) (by decide) ?_
    refine XS.iloadN Xo57.here hx rfl (hb hby own_d1_11) rfl ?_
    refine XS.aloadN Xo57.here hx rfl (hb hby own_d1_12) rfl rfl ?_
    refine Xo57.arraylength hx (by rw [eo57]; exact Aro60.1) (State.isArrayOf_alike hZ.alike Aro60.2.1) (g := (mkF m 13 #[.val (.ref r0), .val (.ref bn2), .val (.int 4)] [(.ref r0), (.int 4)])) rfl rfl (hb hby own_d1_13) _ ?_
    rw [len_of So60 No60]
    show Steps p.tables e below (To57.setTop (mkF m 14 #[.val (.ref r0), .val (.ref bn2), .val (.int 4)] [(.int 5), (.int 4)])) _
    refine XS.icmpNo Xo57.here hx rfl (hb hby own_d1_14) rfl (XT.ii_ge_f (by decide : (4 : Int32) < (5 : Int32))) ?_
    refine XS.iloadN Xo57.here hx rfl (hb hby own_d1_17) rfl ?_
    refine XS.iconst Xo57.here hx rfl (hb hby own_d1_18) ?_
    refine XS.irem Xo57.here hx rfl (hb hby own_d1_19) rfl (by decide) ?_
    show Steps p.tables e below (To57.setTop (mkF m 20 #[.val (.ref r0), .val (.ref bn2), .val (.int 4)] [(.int 0)])) _
    refine XS.ifNo Xo57.here hx rfl (hb hby own_d1_20) rfl (XT.i0_ne_f (by decide : (0 : Int32) = (0 : Int32))) ?_
    refine XS.aloadN Xo57.here hx rfl (hb hby own_d1_23) rfl rfl ?_
    refine XS.iloadN Xo57.here hx rfl (hb hby own_d1_24) rfl ?_
    refine XS.iconst Xo57.here hx rfl (hb hby own_d1_25) ?_
    refine XS.idiv Xo57.here hx rfl (hb hby own_d1_26) rfl (by decide) ?_
    show Steps p.tables e below (To57.setTop (mkF m 27 #[.val (.ref r0), .val (.ref bn2), .val (.int 4)] [(.int 2), (.ref bn2)])) _
    refine XT.dup2 Xo57.here hx rfl (hb hby own_d1_27) rfl rfl rfl ?_
    refine Xo57.daload hx (j := (2 : Int32)) (v := (.double (own_vh5_4 x_r0_3))) (by rw [eo57]; exact Aro61.1) (State.isArrayOf_alike hZ.alike Aro61.2.1) Aro61.2.2 hi62 ha63 (g := (mkF m 28 #[.val (.ref r0), .val (.ref bn2), .val (.int 4)] [(.int 2), (.ref bn2), (.int 2), (.ref bn2)])) rfl rfl (hb hby own_d1_28) _ ?_
    refine XS.aloadN Xo57.here hx rfl (hb hby own_d1_29) rfl rfl ?_
    refine XS.iloadN Xo57.here hx rfl (hb hby own_d1_30) rfl ?_
    refine Xo57.daload hx (j := (4 : Int32)) (v := (.double x_r0_4)) (by rw [eo57]; exact Aro60.1) (State.isArrayOf_alike hZ.alike Aro60.2.1) Aro60.2.2 hi64 ha65 (g := (mkF m 31 #[.val (.ref r0), .val (.ref bn2), .val (.int 4)] [(.int 4), (.ref r0), (.double (own_vh5_4 x_r0_3)), (.int 2), (.ref bn2)])) rfl rfl (hb hby own_d1_31) _ ?_
    show Steps p.tables e below (To57.setTop (mkF m 32 #[.val (.ref r0), .val (.ref bn2), .val (.int 4)] [(.double x_r0_4), (.double (own_vh5_4 x_r0_3)), (.int 2), (.ref bn2)])) _
    refine XS.daddS Xo57.here hx rfl (hb hby own_d1_32) rfl nn32_3 rfl ?_
    refine sto66 _ ?_
    refine XS.goto Xo66.here hx rfl (pc0 := 34) (pc' := 69) rfl (hb hby own_d1_34) (by decide) (by decide) ?_
    refine XS.iinc Xo66.here hx rfl (hb hby own_d1_69) rfl (l' := #[.val (.ref r0), .val (.ref bn2), .val (.int 5)]) rfl ?_
    refine XS.goto Xo66.here hx rfl (pc0 := 72) (pc' := 11) rfl (hb hby own_d1_72) (by decide) (by decide) ?_
    refine XS.iloadN Xo66.here hx rfl (hb hby own_d1_11) rfl ?_
    refine XS.aloadN Xo66.here hx rfl (hb hby own_d1_12) rfl rfl ?_
    refine Xo66.arraylength hx (by rw [eo66]; exact Aro69.1) (State.isArrayOf_alike hZ.alike Aro69.2.1) (g := (mkF m 13 #[.val (.ref r0), .val (.ref bn2), .val (.int 5)] [(.ref r0), (.int 5)])) rfl rfl (hb hby own_d1_13) _ ?_
    rw [len_of So69 No69]
    show Steps p.tables e below (To66.setTop (mkF m 14 #[.val (.ref r0), .val (.ref bn2), .val (.int 5)] [(.int 5), (.int 5)])) _
    refine XS.icmpYes Xo66.here hx rfl (pc0 := 14) (pc' := 75) rfl (hb hby own_d1_14) rfl (XT.ii_ge_t (by decide : ¬ ((5 : Int32) < (5 : Int32)))) (by decide) (by decide) ?_
    refine XS.aloadN Xo66.here hx rfl (hb hby own_d1_75) rfl rfl ?_
    show Steps p.tables e below (To66.setTop (mkF m 76 #[.val (.ref r0), .val (.ref bn2), .val (.int 5)] [(.ref bn2)])) _
    jvm_step Xo66.here [Xo66.here.top, hx, (hb hby own_d1_76), Xo66.method', Bd.returns, Value.isRef, FieldType.isReference]
    first | (intro acts; rw [hr _ acts rfl rfl rfl]) | rw [hr _ _ rfl rfl rfl]
    exact Steps.refl _
  · show own_Qh5 Z r0 k_r0 x_r0_0 x_r0_1 x_r0_2 x_r0_3 x_r0_4 h0 n0 _ To66.heap _
    rw [eo66]
    exact ⟨bn2, kn2, rfl, Nfo66, (((((((((Keep.refl h0 []).ext En2).wr Wo11 (Or.inr sz_bn2)).wr Wo21 (Or.inr sz_bn2)).wr Wo30 (Or.inr sz_bn2)).wr Wo39 (Or.inr sz_bn2)).wr Wo48 (Or.inr sz_bn2)).wr Wo57 (Or.inr sz_bn2)).wr Wo66 (Or.inr sz_bn2)), sz_bn2, Vwo66⟩
def own_vh6_0 (x_r0_0 : UInt64) (x_r0_1 : UInt64) : UInt64 := (FP.dadd (FP.dadd (0 : UInt64) x_r0_0) (FP.ddiv x_r0_1 (4611686018427387904 : UInt64)))
def own_vh6_1 (x_r0_1 : UInt64) : UInt64 := (FP.dadd (0 : UInt64) (FP.ddiv x_r0_1 (4611686018427387904 : UInt64)))
def own_vh6_2 (x_r0_1 : UInt64) (x_r0_2 : UInt64) : UInt64 := (FP.dadd (own_vh6_1 x_r0_1) x_r0_2)
def own_vh6_3 (x_r0_1 : UInt64) (x_r0_2 : UInt64) (x_r0_3 : UInt64) : UInt64 := (FP.dadd (own_vh6_2 x_r0_1 x_r0_2) (FP.ddiv x_r0_3 (4611686018427387904 : UInt64)))
def own_vh6_4 (x_r0_3 : UInt64) : UInt64 := (FP.dadd (0 : UInt64) (FP.ddiv x_r0_3 (4611686018427387904 : UInt64)))
def own_vh6_5 (x_r0_3 : UInt64) (x_r0_4 : UInt64) : UInt64 := (FP.dadd (own_vh6_4 x_r0_3) x_r0_4)
def own_vh6_6 (x_r0_3 : UInt64) (x_r0_4 : UInt64) (x_r0_5 : UInt64) : UInt64 := (FP.dadd (own_vh6_5 x_r0_3 x_r0_4) (FP.ddiv x_r0_5 (4611686018427387904 : UInt64)))
def own_vh6_7 (x_r0_5 : UInt64) : UInt64 := (FP.dadd (0 : UInt64) (FP.ddiv x_r0_5 (4611686018427387904 : UInt64)))
theorem own_efh6 (m : MethodId) (r0 : Addr) : entryFrame m #[(.ref r0)] 3 = mkF m 0 #[.val (.ref r0), .unset, .unset] [] := by first | (simp [entryFrame, mkF, argsToLocals, Value.category]; done) | rfl
def own_Qh6 (Z : State) (r0 : Addr) (k_r0 : ClassId) (x_r0_0 : UInt64) (x_r0_1 : UInt64) (x_r0_2 : UInt64) (x_r0_3 : UInt64) (x_r0_4 : UInt64) (x_r0_5 : UInt64) (h0 : Heap) (n0 : Nat) (v : Option Value) (h : Heap) (L : List Loc) : Prop := ∃ (bn2 : Addr) (kn2 : ClassId), v = some (.ref bn2) ∧ Fr n0 L ∧ Keep h0 h [] ∧ h0.size ≤ bn2 ∧ Arv Z h bn2 kn2 .double (4 : Int32) [(.double (own_vh6_0 x_r0_0 x_r0_1)), (.double (own_vh6_3 x_r0_1 x_r0_2 x_r0_3)), (.double (own_vh6_6 x_r0_3 x_r0_4 x_r0_5)), (.double (own_vh6_7 x_r0_5))] (.double 0)
set_option maxRecDepth 65536 in
set_option maxHeartbeats 40000000 in
theorem own_rmh6 (l : Launch) (Z : State) (a0 : Array Value) (hw : ∀ d ∈ tables_1, d.before a0 Z = true) (ws : List Jvm.Cond) (r0 : Addr) (k_r0 : ClassId) (x_r0_0 : UInt64) (x_r0_1 : UInt64) (x_r0_2 : UInt64) (x_r0_3 : UInt64) (x_r0_4 : UInt64) (x_r0_5 : UInt64) (h0 : Heap) (n0 : Nat) (Z0 : n0 ≤ h0.size) (V_r0 : Arv Z h0 r0 k_r0 .double (6 : Int32) [(.double x_r0_0), (.double x_r0_1), (.double x_r0_2), (.double x_r0_3), (.double x_r0_4), (.double x_r0_5)] (.double 0)) (nn32 : NoNaN64 (FP.dadd (0 : UInt64) x_r0_0)) (nn49 : NoNaN64 (FP.ddiv x_r0_1 (4611686018427387904 : UInt64))) (nn50 : NoNaN64 (FP.dadd (FP.dadd (0 : UInt64) x_r0_0) (FP.ddiv x_r0_1 (4611686018427387904 : UInt64)))) (nn67 : NoNaN64 (FP.dadd (0 : UInt64) (FP.ddiv x_r0_1 (4611686018427387904 : UInt64)))) (nn32_2 : NoNaN64 (FP.dadd (own_vh6_1 x_r0_1) x_r0_2)) (nn49_2 : NoNaN64 (FP.ddiv x_r0_3 (4611686018427387904 : UInt64))) (nn50_2 : NoNaN64 (FP.dadd (own_vh6_2 x_r0_1 x_r0_2) (FP.ddiv x_r0_3 (4611686018427387904 : UInt64)))) (nn67_2 : NoNaN64 (FP.dadd (0 : UInt64) (FP.ddiv x_r0_3 (4611686018427387904 : UInt64)))) (nn32_3 : NoNaN64 (FP.dadd (own_vh6_4 x_r0_3) x_r0_4)) (nn49_3 : NoNaN64 (FP.ddiv x_r0_5 (4611686018427387904 : UInt64))) (nn50_3 : NoNaN64 (FP.dadd (own_vh6_5 x_r0_3 x_r0_4) (FP.ddiv x_r0_5 (4611686018427387904 : UInt64)))) (nn67_3 : NoNaN64 (FP.dadd (0 : UInt64) (FP.ddiv x_r0_5 (4611686018427387904 : UInt64)))) :
    MetFree l (⟨"com/example/surepath/surepath/TravelTime$Lattices", "halved", "([D)[D"⟩ : MethodName) (head1 (Jvm.Cond.code (⟨"com/example/surepath/surepath/TravelTime$Lattices", "halved", "([D)[D"⟩ : MethodName) prog_64_method_16_code 3 (some (.array .double)) :: ws) ({ frames := 0, cells := 1, slots := 4, locals := 0 } : Room)) (fun a U => a = #[(.ref r0)] ∧ Z.Warmed39 U.vm ∧ U.heap = h0) (fun _ _ _ _ _ => True) (fun _ U o U' => ∃ v L, o = .returned v ∧ own_Qh6 Z r0 k_r0 x_r0_0 x_r0_1 x_r0_2 x_r0_3 x_r0_4 x_r0_5 h0 n0 v U'.heap L ∧ FrameEnd U o U' L ({ frames := 0, cells := 1, slots := 4, locals := 0 } : Room).cells ({ frames := 0, cells := 1, slots := 4, locals := 0 } : Room).slots) := by
  refine MetFree.of_bodySF (plainFor_of_name own_pn1) hisR ?_
  intro p e s m args below meth c s₁ Bd hml0 hP hK
  obtain ⟨rfl, hZ, hh⟩ := hP
  have hx := Bd.exec
  have hby := Bd.bytes
  have hml : c.maxLocals = 3 := hml0
  have hown : s.vm.findClass "com/example/surepath/surepath/TravelTime$Lattices" = some m.cls := findClass_of_methodNamed Bd.named
  have hnm := (name_of_methodNamed Bd.named Bd.method).1
  have X0 : Stand p l e ({ frames := 0, cells := 1, slots := 4, locals := 0 } : Room) s m #[(.ref r0)] below meth c s₁ [] 0 0 := Stand.of_body Bd
  have e0 : s₁.heap = h0 := by rw [← hh, Bd.state]; rfl
  have N0 := Fr.nil n0
  have Zr : h0.size ≤ h0.size := Nat.le_refl _
  have pre0 : ∀ t, Steps p.tables e below (s₁.setTop (mkF m 0 #[.val (.ref r0), .unset, .unset] [])) t → Steps p.tables e below (s₁.setTop (entryFrame m #[(.ref r0)] 3)) t := fun t k => castTop (own_efh6 m r0) k
  obtain ⟨clo1, Aro1, qo1, So1, No1, Ho1, Go1⟩ := id V_r0
  obtain ⟨Tn2, hn2, kn2, Xn2, en2, En2, An2, stn2⟩ := newP X0 hx hZ (own_W hw 1 rfl) e0 (g := (mkF m 6 #[.val (.ref r0), .unset, .unset] [(.int 4)])) rfl (hb hby own_d1_6) rfl (by decide) (cap := 4) (by decide) (by decide) (by decide) (by decide)
  obtain ⟨bn2, gn2⟩ : ∃ z, z = h0.size := ⟨_, rfl⟩
  rw [← gn2] at An2 stn2
  have g_bn2 : n0 ≤ bn2 := Nat.le_trans Z0 (Nat.le_of_eq gn2.symm)
  have sz_bn2 : h0.size ≤ bn2 := Nat.le_trans Zr (Nat.le_of_eq gn2.symm)
  have sz3 : h0.size ≤ hn2.size := Nat.le_trans Zr En2.1
  have V_bn2 : Arv Z hn2 bn2 kn2 .double (4 : Int32) [(.double 0), (.double 0), (.double 0), (.double 0)] (.double 0) := (Arv.new An2 (by decide)).pad (pad_rep [] (.double 0) 4)
  have F4 := (V_r0.ext En2)
  obtain ⟨clo5, Aro5, qo5, So5, No5, Ho5, Go5⟩ := id F4
  obtain ⟨clo6, Aro6, qo6, So6, No6, Ho6, Go6⟩ := id V_bn2
  have hi7 := inb_of (j := (0 : Int32)) So6 ⟨by decide, by decide⟩
  have ha8 : _ = some (Value.double (0 : UInt64)) := Ho6.at hi7 rfl
  have hi9 := inb_of (j := (0 : Int32)) So5 ⟨by decide, by decide⟩
  have ha10 : _ = some (Value.double x_r0_0) := Ho5.at hi9 rfl
  obtain ⟨To11, ho11, Xo11, eo11, Wo11, sto11⟩ := stD Xn2 hx hZ en2 Aro6 (j := (0 : Int32)) hi7 (g := (mkF m 33 #[.val (.ref r0), .val (.ref bn2), .val (.int 0)] [(.double (FP.dadd (0 : UInt64) x_r0_0)), (.int 0), (.ref bn2)])) rfl rfl (hb hby own_d1_33)
  have Vwo11 : Arv Z ho11 bn2 kn2 .double (4 : Int32) [(.double (FP.dadd (0 : UInt64) x_r0_0)), (.double 0), (.double 0), (.double 0)] (.double 0) := Arv.set Aro6 qo6 So6 No6 Ho6 Go6 rfl Wo11 0 rfl (Nat.le_of_ble_eq_true rfl)
  have sz12 : h0.size ≤ ho11.size := Nat.le_trans sz3 (Nat.le_of_eq Wo11.size.symm)
  have Nfo11 := Fr.snoc Xo11 N0 g_bn2
  have ne13 : bn2 ≠ r0 := (Ne.symm (Nat.ne_of_lt (Nat.lt_of_lt_of_le V_r0.lt (Nat.le_of_eq gn2.symm))))
  have F14 := (F4.other Wo11 (Ne.symm ne13))
  obtain ⟨clo15, Aro15, qo15, So15, No15, Ho15, Go15⟩ := id F14
  obtain ⟨clo16, Aro16, qo16, So16, No16, Ho16, Go16⟩ := id Vwo11
  have hi17 := inb_of (j := (0 : Int32)) So16 ⟨by decide, by decide⟩
  have ha18 : _ = some (Value.double (FP.dadd (0 : UInt64) x_r0_0)) := Ho16.at hi17 rfl
  have hi19 := inb_of (j := (1 : Int32)) So15 ⟨by decide, by decide⟩
  have ha20 : _ = some (Value.double x_r0_1) := Ho15.at hi19 rfl
  obtain ⟨To21, ho21, Xo21, eo21, Wo21, sto21⟩ := stD Xo11 hx hZ eo11 Aro16 (j := (0 : Int32)) hi17 (g := (mkF m 51 #[.val (.ref r0), .val (.ref bn2), .val (.int 1)] [(.double (FP.dadd (FP.dadd (0 : UInt64) x_r0_0) (FP.ddiv x_r0_1 (4611686018427387904 : UInt64)))), (.int 0), (.ref bn2)])) rfl rfl (hb hby own_d1_51)
  have Vwo21 : Arv Z ho21 bn2 kn2 .double (4 : Int32) [(.double (own_vh6_0 x_r0_0 x_r0_1)), (.double 0), (.double 0), (.double 0)] (.double 0) := Arv.set Aro16 qo16 So16 No16 Ho16 Go16 rfl Wo21 0 rfl (Nat.le_of_ble_eq_true rfl)
  have sz22 : h0.size ≤ ho21.size := Nat.le_trans sz12 (Nat.le_of_eq Wo21.size.symm)
  have Nfo21 := Fr.snoc Xo21 Nfo11 g_bn2
  obtain ⟨clo23, Aro23, qo23, So23, No23, Ho23, Go23⟩ := id Vwo21
  have hi24 := inb_of (j := (1 : Int32)) So23 ⟨by decide, by decide⟩
  have ha25 : _ = some (Value.double (0 : UInt64)) := Ho23.at hi24 rfl
  have F26 := (F14.other Wo21 (Ne.symm ne13))
  obtain ⟨clo27, Aro27, qo27, So27, No27, Ho27, Go27⟩ := id F26
  have hi28 := inb_of (j := (1 : Int32)) So27 ⟨by decide, by decide⟩
  have ha29 : _ = some (Value.double x_r0_1) := Ho27.at hi28 rfl
  obtain ⟨To30, ho30, Xo30, eo30, Wo30, sto30⟩ := stD Xo21 hx hZ eo21 Aro23 (j := (1 : Int32)) hi24 (g := (mkF m 68 #[.val (.ref r0), .val (.ref bn2), .val (.int 1)] [(.double (FP.dadd (0 : UInt64) (FP.ddiv x_r0_1 (4611686018427387904 : UInt64)))), (.int 1), (.ref bn2)])) rfl rfl (hb hby own_d1_68)
  have Vwo30 : Arv Z ho30 bn2 kn2 .double (4 : Int32) [(.double (own_vh6_0 x_r0_0 x_r0_1)), (.double (own_vh6_1 x_r0_1)), (.double 0), (.double 0)] (.double 0) := Arv.set Aro23 qo23 So23 No23 Ho23 Go23 rfl Wo30 1 rfl (Nat.le_of_ble_eq_true rfl)
  have sz31 : h0.size ≤ ho30.size := Nat.le_trans sz22 (Nat.le_of_eq Wo30.size.symm)
  have Nfo30 := Fr.snoc Xo30 Nfo21 g_bn2
  have F32 := (F26.other Wo30 (Ne.symm ne13))
  obtain ⟨clo33, Aro33, qo33, So33, No33, Ho33, Go33⟩ := id F32
  obtain ⟨clo34, Aro34, qo34, So34, No34, Ho34, Go34⟩ := id Vwo30
  have hi35 := inb_of (j := (1 : Int32)) So34 ⟨by decide, by decide⟩
  have ha36 : _ = some (Value.double (own_vh6_1 x_r0_1)) := Ho34.at hi35 rfl
  have hi37 := inb_of (j := (2 : Int32)) So33 ⟨by decide, by decide⟩
  have ha38 : _ = some (Value.double x_r0_2) := Ho33.at hi37 rfl
  obtain ⟨To39, ho39, Xo39, eo39, Wo39, sto39⟩ := stD Xo30 hx hZ eo30 Aro34 (j := (1 : Int32)) hi35 (g := (mkF m 33 #[.val (.ref r0), .val (.ref bn2), .val (.int 2)] [(.double (FP.dadd (own_vh6_1 x_r0_1) x_r0_2)), (.int 1), (.ref bn2)])) rfl rfl (hb hby own_d1_33)
  have Vwo39 : Arv Z ho39 bn2 kn2 .double (4 : Int32) [(.double (own_vh6_0 x_r0_0 x_r0_1)), (.double (own_vh6_2 x_r0_1 x_r0_2)), (.double 0), (.double 0)] (.double 0) := Arv.set Aro34 qo34 So34 No34 Ho34 Go34 rfl Wo39 1 rfl (Nat.le_of_ble_eq_true rfl)
  have sz40 : h0.size ≤ ho39.size := Nat.le_trans sz31 (Nat.le_of_eq Wo39.size.symm)
  have Nfo39 := Fr.snoc Xo39 Nfo30 g_bn2
  have F41 := (F32.other Wo39 (Ne.symm ne13))
  obtain ⟨clo42, Aro42, qo42, So42, No42, Ho42, Go42⟩ := id F41
  obtain ⟨clo43, Aro43, qo43, So43, No43, Ho43, Go43⟩ := id Vwo39
  have hi44 := inb_of (j := (1 : Int32)) So43 ⟨by decide, by decide⟩
  have ha45 : _ = some (Value.double (own_vh6_2 x_r0_1 x_r0_2)) := Ho43.at hi44 rfl
  have hi46 := inb_of (j := (3 : Int32)) So42 ⟨by decide, by decide⟩
  have ha47 : _ = some (Value.double x_r0_3) := Ho42.at hi46 rfl
  obtain ⟨To48, ho48, Xo48, eo48, Wo48, sto48⟩ := stD Xo39 hx hZ eo39 Aro43 (j := (1 : Int32)) hi44 (g := (mkF m 51 #[.val (.ref r0), .val (.ref bn2), .val (.int 3)] [(.double (FP.dadd (own_vh6_2 x_r0_1 x_r0_2) (FP.ddiv x_r0_3 (4611686018427387904 : UInt64)))), (.int 1), (.ref bn2)])) rfl rfl (hb hby own_d1_51)
  have Vwo48 : Arv Z ho48 bn2 kn2 .double (4 : Int32) [(.double (own_vh6_0 x_r0_0 x_r0_1)), (.double (own_vh6_3 x_r0_1 x_r0_2 x_r0_3)), (.double 0), (.double 0)] (.double 0) := Arv.set Aro43 qo43 So43 No43 Ho43 Go43 rfl Wo48 1 rfl (Nat.le_of_ble_eq_true rfl)
  have sz49 : h0.size ≤ ho48.size := Nat.le_trans sz40 (Nat.le_of_eq Wo48.size.symm)
  have Nfo48 := Fr.snoc Xo48 Nfo39 g_bn2
  obtain ⟨clo50, Aro50, qo50, So50, No50, Ho50, Go50⟩ := id Vwo48
  have hi51 := inb_of (j := (2 : Int32)) So50 ⟨by decide, by decide⟩
  have ha52 : _ = some (Value.double (0 : UInt64)) := Ho50.at hi51 rfl
  have F53 := (F41.other Wo48 (Ne.symm ne13))
  obtain ⟨clo54, Aro54, qo54, So54, No54, Ho54, Go54⟩ := id F53
  have hi55 := inb_of (j := (3 : Int32)) So54 ⟨by decide, by decide⟩
  have ha56 : _ = some (Value.double x_r0_3) := Ho54.at hi55 rfl
  obtain ⟨To57, ho57, Xo57, eo57, Wo57, sto57⟩ := stD Xo48 hx hZ eo48 Aro50 (j := (2 : Int32)) hi51 (g := (mkF m 68 #[.val (.ref r0), .val (.ref bn2), .val (.int 3)] [(.double (FP.dadd (0 : UInt64) (FP.ddiv x_r0_3 (4611686018427387904 : UInt64)))), (.int 2), (.ref bn2)])) rfl rfl (hb hby own_d1_68)
  have Vwo57 : Arv Z ho57 bn2 kn2 .double (4 : Int32) [(.double (own_vh6_0 x_r0_0 x_r0_1)), (.double (own_vh6_3 x_r0_1 x_r0_2 x_r0_3)), (.double (own_vh6_4 x_r0_3)), (.double 0)] (.double 0) := Arv.set Aro50 qo50 So50 No50 Ho50 Go50 rfl Wo57 2 rfl (Nat.le_of_ble_eq_true rfl)
  have sz58 : h0.size ≤ ho57.size := Nat.le_trans sz49 (Nat.le_of_eq Wo57.size.symm)
  have Nfo57 := Fr.snoc Xo57 Nfo48 g_bn2
  have F59 := (F53.other Wo57 (Ne.symm ne13))
  obtain ⟨clo60, Aro60, qo60, So60, No60, Ho60, Go60⟩ := id F59
  obtain ⟨clo61, Aro61, qo61, So61, No61, Ho61, Go61⟩ := id Vwo57
  have hi62 := inb_of (j := (2 : Int32)) So61 ⟨by decide, by decide⟩
  have ha63 : _ = some (Value.double (own_vh6_4 x_r0_3)) := Ho61.at hi62 rfl
  have hi64 := inb_of (j := (4 : Int32)) So60 ⟨by decide, by decide⟩
  have ha65 : _ = some (Value.double x_r0_4) := Ho60.at hi64 rfl
  obtain ⟨To66, ho66, Xo66, eo66, Wo66, sto66⟩ := stD Xo57 hx hZ eo57 Aro61 (j := (2 : Int32)) hi62 (g := (mkF m 33 #[.val (.ref r0), .val (.ref bn2), .val (.int 4)] [(.double (FP.dadd (own_vh6_4 x_r0_3) x_r0_4)), (.int 2), (.ref bn2)])) rfl rfl (hb hby own_d1_33)
  have Vwo66 : Arv Z ho66 bn2 kn2 .double (4 : Int32) [(.double (own_vh6_0 x_r0_0 x_r0_1)), (.double (own_vh6_3 x_r0_1 x_r0_2 x_r0_3)), (.double (own_vh6_5 x_r0_3 x_r0_4)), (.double 0)] (.double 0) := Arv.set Aro61 qo61 So61 No61 Ho61 Go61 rfl Wo66 2 rfl (Nat.le_of_ble_eq_true rfl)
  have sz67 : h0.size ≤ ho66.size := Nat.le_trans sz58 (Nat.le_of_eq Wo66.size.symm)
  have Nfo66 := Fr.snoc Xo66 Nfo57 g_bn2
  have F68 := (F59.other Wo66 (Ne.symm ne13))
  obtain ⟨clo69, Aro69, qo69, So69, No69, Ho69, Go69⟩ := id F68
  obtain ⟨clo70, Aro70, qo70, So70, No70, Ho70, Go70⟩ := id Vwo66
  have hi71 := inb_of (j := (2 : Int32)) So70 ⟨by decide, by decide⟩
  have ha72 : _ = some (Value.double (own_vh6_5 x_r0_3 x_r0_4)) := Ho70.at hi71 rfl
  have hi73 := inb_of (j := (5 : Int32)) So69 ⟨by decide, by decide⟩
  have ha74 : _ = some (Value.double x_r0_5) := Ho69.at hi73 rfl
  obtain ⟨To75, ho75, Xo75, eo75, Wo75, sto75⟩ := stD Xo66 hx hZ eo66 Aro70 (j := (2 : Int32)) hi71 (g := (mkF m 51 #[.val (.ref r0), .val (.ref bn2), .val (.int 5)] [(.double (FP.dadd (own_vh6_5 x_r0_3 x_r0_4) (FP.ddiv x_r0_5 (4611686018427387904 : UInt64)))), (.int 2), (.ref bn2)])) rfl rfl (hb hby own_d1_51)
  have Vwo75 : Arv Z ho75 bn2 kn2 .double (4 : Int32) [(.double (own_vh6_0 x_r0_0 x_r0_1)), (.double (own_vh6_3 x_r0_1 x_r0_2 x_r0_3)), (.double (own_vh6_6 x_r0_3 x_r0_4 x_r0_5)), (.double 0)] (.double 0) := Arv.set Aro70 qo70 So70 No70 Ho70 Go70 rfl Wo75 2 rfl (Nat.le_of_ble_eq_true rfl)
  have sz76 : h0.size ≤ ho75.size := Nat.le_trans sz67 (Nat.le_of_eq Wo75.size.symm)
  have Nfo75 := Fr.snoc Xo75 Nfo66 g_bn2
  obtain ⟨clo77, Aro77, qo77, So77, No77, Ho77, Go77⟩ := id Vwo75
  have hi78 := inb_of (j := (3 : Int32)) So77 ⟨by decide, by decide⟩
  have ha79 : _ = some (Value.double (0 : UInt64)) := Ho77.at hi78 rfl
  have F80 := (F68.other Wo75 (Ne.symm ne13))
  obtain ⟨clo81, Aro81, qo81, So81, No81, Ho81, Go81⟩ := id F80
  have hi82 := inb_of (j := (5 : Int32)) So81 ⟨by decide, by decide⟩
  have ha83 : _ = some (Value.double x_r0_5) := Ho81.at hi82 rfl
  obtain ⟨To84, ho84, Xo84, eo84, Wo84, sto84⟩ := stD Xo75 hx hZ eo75 Aro77 (j := (3 : Int32)) hi78 (g := (mkF m 68 #[.val (.ref r0), .val (.ref bn2), .val (.int 5)] [(.double (FP.dadd (0 : UInt64) (FP.ddiv x_r0_5 (4611686018427387904 : UInt64)))), (.int 3), (.ref bn2)])) rfl rfl (hb hby own_d1_68)
  have Vwo84 : Arv Z ho84 bn2 kn2 .double (4 : Int32) [(.double (own_vh6_0 x_r0_0 x_r0_1)), (.double (own_vh6_3 x_r0_1 x_r0_2 x_r0_3)), (.double (own_vh6_6 x_r0_3 x_r0_4 x_r0_5)), (.double (own_vh6_7 x_r0_5))] (.double 0) := Arv.set Aro77 qo77 So77 No77 Ho77 Go77 rfl Wo84 3 rfl (Nat.le_of_ble_eq_true rfl)
  have sz85 : h0.size ≤ ho84.size := Nat.le_trans sz76 (Nat.le_of_eq Wo84.size.symm)
  have Nfo84 := Fr.snoc Xo84 Nfo75 g_bn2
  have F86 := (F80.other Wo84 (Ne.symm ne13))
  obtain ⟨clo87, Aro87, qo87, So87, No87, Ho87, Go87⟩ := id F86
  obtain ⟨fs, hr, hrun, hended, hW, hsame⟩ := Xo84.leave (v := some (.ref bn2)) (fun h => by rw [Bd.returns] at h; cases h)
  refine ⟨_, _, pre0 _ (?_), hrun, hended, _, _, rfl, ?_, ⟨_, rfl⟩, hW, hsame.mono (by decide) (by decide)⟩
  · show Steps p.tables e below (s₁.setTop (mkF m 0 #[.val (.ref r0), .unset, .unset] [])) _
    refine XS.aloadN X0.here hx rfl (hb hby own_d1_0) rfl rfl ?_
    refine X0.arraylength hx (by rw [e0]; exact Aro1.1) (State.isArrayOf_alike hZ.alike Aro1.2.1) (g := (mkF m 1 #[.val (.ref r0), .unset, .unset] [(.ref r0)])) rfl rfl (hb hby own_d1_1) _ ?_
    rw [len_of So1 No1]
    show Steps p.tables e below (s₁.setTop (mkF m 2 #[.val (.ref r0), .unset, .unset] [(.int 6)])) _
    refine XS.iconst X0.here hx rfl (hb hby own_d1_2) ?_
    refine XS.idiv X0.here hx rfl (hb hby own_d1_3) rfl (by decide) ?_
    refine XS.iconst X0.here hx rfl (hb hby own_d1_4) ?_
    refine XS.iadd X0.here hx rfl (hb hby own_d1_5) rfl ?_
    show Steps p.tables e below (s₁.setTop (mkF m 6 #[.val (.ref r0), .unset, .unset] [(.int 4)])) _
    refine stn2 _ ?_
    refine XS.astoreN Xn2.here hx rfl (hb hby own_d1_8) rfl rfl (l' := #[.val (.ref r0), .val (.ref bn2), .unset]) rfl ?_
    refine XS.iconst Xn2.here hx rfl (hb hby own_d1_9) ?_
    refine XS.istoreN Xn2.here hx rfl (hb hby own_d1_10) rfl (l' := #[.val (.ref r0), .val (.ref bn2), .val (.int 0)]) rfl ?_
    refine XS.iloadN Xn2.here hx rfl (hb hby own_d1_11) rfl ?_
    refine XS.aloadN Xn2.here hx rfl (hb hby own_d1_12) rfl rfl ?_
    refine Xn2.arraylength hx (by rw [en2]; exact Aro5.1) (State.isArrayOf_alike hZ.alike Aro5.2.1) (g := (mkF m 13 #[.val (.ref r0), .val (.ref bn2), .val (.int 0)] [(.ref r0), (.int 0)])) rfl rfl (hb hby own_d1_13) _ ?_
    rw [len_of So5 No5]
    show Steps p.tables e below (Tn2.setTop (mkF m 14 #[.val (.ref r0), .val (.ref bn2), .val (.int 0)] [(.int 6), (.int 0)])) _
    refine XS.icmpNo Xn2.here hx rfl (hb hby own_d1_14) rfl (XT.ii_ge_f (by decide : (0 : Int32) < (6 : Int32))) ?_
    refine XS.iloadN Xn2.here hx rfl (hb hby own_d1_17) rfl ?_
    refine XS.iconst Xn2.here hx rfl (hb hby own_d1_18) ?_
    refine XS.irem Xn2.here hx rfl (hb hby own_d1_19) rfl (by decide) ?_
    show Steps p.tables e below (Tn2.setTop (mkF m 20 #[.val (.ref r0), .val (.ref bn2), .val (.int 0)] [(.int 0)])) _
    refine XS.ifNo Xn2.here hx rfl (hb hby own_d1_20) rfl (XT.i0_ne_f (by decide : (0 : Int32) = (0 : Int32))) ?_
    refine XS.aloadN Xn2.here hx rfl (hb hby own_d1_23) rfl rfl ?_
    refine XS.iloadN Xn2.here hx rfl (hb hby own_d1_24) rfl ?_
    refine XS.iconst Xn2.here hx rfl (hb hby own_d1_25) ?_
    refine XS.idiv Xn2.here hx rfl (hb hby own_d1_26) rfl (by decide) ?_
    show Steps p.tables e below (Tn2.setTop (mkF m 27 #[.val (.ref r0), .val (.ref bn2), .val (.int 0)] [(.int 0), (.ref bn2)])) _
    refine XT.dup2 Xn2.here hx rfl (hb hby own_d1_27) rfl rfl rfl ?_
    refine Xn2.daload hx (j := (0 : Int32)) (v := (.double 0)) (by rw [en2]; exact Aro6.1) (State.isArrayOf_alike hZ.alike Aro6.2.1) Aro6.2.2 hi7 ha8 (g := (mkF m 28 #[.val (.ref r0), .val (.ref bn2), .val (.int 0)] [(.int 0), (.ref bn2), (.int 0), (.ref bn2)])) rfl rfl (hb hby own_d1_28) _ ?_
    refine XS.aloadN Xn2.here hx rfl (hb hby own_d1_29) rfl rfl ?_
    refine XS.iloadN Xn2.here hx rfl (hb hby own_d1_30) rfl ?_
    refine Xn2.daload hx (j := (0 : Int32)) (v := (.double x_r0_0)) (by rw [en2]; exact Aro5.1) (State.isArrayOf_alike hZ.alike Aro5.2.1) Aro5.2.2 hi9 ha10 (g := (mkF m 31 #[.val (.ref r0), .val (.ref bn2), .val (.int 0)] [(.int 0), (.ref r0), (.double 0), (.int 0), (.ref bn2)])) rfl rfl (hb hby own_d1_31) _ ?_
    show Steps p.tables e below (Tn2.setTop (mkF m 32 #[.val (.ref r0), .val (.ref bn2), .val (.int 0)] [(.double x_r0_0), (.double 0), (.int 0), (.ref bn2)])) _
    refine XS.daddS Xn2.here hx rfl (hb hby own_d1_32) rfl nn32 rfl ?_
    refine sto11 _ ?_
    refine XS.goto Xo11.here hx rfl (pc0 := 34) (pc' := 69) rfl (hb hby own_d1_34) (by decide) (by decide) ?_
    refine XS.iinc Xo11.here hx rfl (hb hby own_d1_69) rfl (l' := #[.val (.ref r0), .val (.ref bn2), .val (.int 1)]) rfl ?_
    refine XS.goto Xo11.here hx rfl (pc0 := 72) (pc' := 11) rfl (hb hby own_d1_72) (by decide) (by decide) ?_
    refine XS.iloadN Xo11.here hx rfl (hb hby own_d1_11) rfl ?_
    refine XS.aloadN Xo11.here hx rfl (hb hby own_d1_12) rfl rfl ?_
    refine Xo11.arraylength hx (by rw [eo11]; exact Aro15.1) (State.isArrayOf_alike hZ.alike Aro15.2.1) (g := (mkF m 13 #[.val (.ref r0), .val (.ref bn2), .val (.int 1)] [(.ref r0), (.int 1)])) rfl rfl (hb hby own_d1_13) _ ?_
    rw [len_of So15 No15]
    show Steps p.tables e below (To11.setTop (mkF m 14 #[.val (.ref r0), .val (.ref bn2), .val (.int 1)] [(.int 6), (.int 1)])) _
    refine XS.icmpNo Xo11.here hx rfl (hb hby own_d1_14) rfl (XT.ii_ge_f (by decide : (1 : Int32) < (6 : Int32))) ?_
    refine XS.iloadN Xo11.here hx rfl (hb hby own_d1_17) rfl ?_
    refine XS.iconst Xo11.here hx rfl (hb hby own_d1_18) ?_
    refine XS.irem Xo11.here hx rfl (hb hby own_d1_19) rfl (by decide) ?_
    show Steps p.tables e below (To11.setTop (mkF m 20 #[.val (.ref r0), .val (.ref bn2), .val (.int 1)] [(.int 1)])) _
    refine XS.ifYes Xo11.here hx rfl (pc0 := 20) (pc' := 37) rfl (hb hby own_d1_20) rfl (XT.i0_ne_t (by decide : ¬ ((1 : Int32) = (0 : Int32)))) (by decide) (by decide) ?_
    refine XS.aloadN Xo11.here hx rfl (hb hby own_d1_37) rfl rfl ?_
    refine XS.iloadN Xo11.here hx rfl (hb hby own_d1_38) rfl ?_
    refine XS.iconst Xo11.here hx rfl (hb hby own_d1_39) ?_
    refine XS.idiv Xo11.here hx rfl (hb hby own_d1_40) rfl (by decide) ?_
    show Steps p.tables e below (To11.setTop (mkF m 41 #[.val (.ref r0), .val (.ref bn2), .val (.int 1)] [(.int 0), (.ref bn2)])) _
    refine XT.dup2 Xo11.here hx rfl (hb hby own_d1_41) rfl rfl rfl ?_
    refine Xo11.daload hx (j := (0 : Int32)) (v := (.double (FP.dadd (0 : UInt64) x_r0_0))) (by rw [eo11]; exact Aro16.1) (State.isArrayOf_alike hZ.alike Aro16.2.1) Aro16.2.2 hi17 ha18 (g := (mkF m 42 #[.val (.ref r0), .val (.ref bn2), .val (.int 1)] [(.int 0), (.ref bn2), (.int 0), (.ref bn2)])) rfl rfl (hb hby own_d1_42) _ ?_
    refine XS.aloadN Xo11.here hx rfl (hb hby own_d1_43) rfl rfl ?_
    refine XS.iloadN Xo11.here hx rfl (hb hby own_d1_44) rfl ?_
    refine Xo11.daload hx (j := (1 : Int32)) (v := (.double x_r0_1)) (by rw [eo11]; exact Aro15.1) (State.isArrayOf_alike hZ.alike Aro15.2.1) Aro15.2.2 hi19 ha20 (g := (mkF m 45 #[.val (.ref r0), .val (.ref bn2), .val (.int 1)] [(.int 1), (.ref r0), (.double (FP.dadd (0 : UInt64) x_r0_0)), (.int 0), (.ref bn2)])) rfl rfl (hb hby own_d1_45) _ ?_
    show Steps p.tables e below (To11.setTop (mkF m 46 #[.val (.ref r0), .val (.ref bn2), .val (.int 1)] [(.double x_r0_1), (.double (FP.dadd (0 : UInt64) x_r0_0)), (.int 0), (.ref bn2)])) _
    refine Xo11.ldc2DoubleC hx hown (mvT hZ (own_W hw 14 rfl)) (g := (mkF m 46 #[.val (.ref r0), .val (.ref bn2), .val (.int 1)] [(.double x_r0_1), (.double (FP.dadd (0 : UInt64) x_r0_0)), (.int 0), (.ref bn2)])) rfl (hb hby own_d1_46) _ ?_
    refine XS.ddivS Xo11.here hx rfl (hb hby own_d1_49) rfl nn49 rfl ?_
    refine XS.daddS Xo11.here hx rfl (hb hby own_d1_50) rfl nn50 rfl ?_
    refine sto21 _ ?_
    show Steps p.tables e below (To21.setTop (mkF m 52 #[.val (.ref r0), .val (.ref bn2), .val (.int 1)] [])) _
    refine XS.aloadN Xo21.here hx rfl (hb hby own_d1_52) rfl rfl ?_
    refine XS.iloadN Xo21.here hx rfl (hb hby own_d1_53) rfl ?_
    refine XS.iconst Xo21.here hx rfl (hb hby own_d1_54) ?_
    refine XS.idiv Xo21.here hx rfl (hb hby own_d1_55) rfl (by decide) ?_
    show Steps p.tables e below (To21.setTop (mkF m 56 #[.val (.ref r0), .val (.ref bn2), .val (.int 1)] [(.int 0), (.ref bn2)])) _
    refine XS.iconst Xo21.here hx rfl (hb hby own_d1_56) ?_
    refine XS.iadd Xo21.here hx rfl (hb hby own_d1_57) rfl ?_
    show Steps p.tables e below (To21.setTop (mkF m 58 #[.val (.ref r0), .val (.ref bn2), .val (.int 1)] [(.int 1), (.ref bn2)])) _
    refine XT.dup2 Xo21.here hx rfl (hb hby own_d1_58) rfl rfl rfl ?_
    refine Xo21.daload hx (j := (1 : Int32)) (v := (.double 0)) (by rw [eo21]; exact Aro23.1) (State.isArrayOf_alike hZ.alike Aro23.2.1) Aro23.2.2 hi24 ha25 (g := (mkF m 59 #[.val (.ref r0), .val (.ref bn2), .val (.int 1)] [(.int 1), (.ref bn2), (.int 1), (.ref bn2)])) rfl rfl (hb hby own_d1_59) _ ?_
    refine XS.aloadN Xo21.here hx rfl (hb hby own_d1_60) rfl rfl ?_
    refine XS.iloadN Xo21.here hx rfl (hb hby own_d1_61) rfl ?_
    refine Xo21.daload hx (j := (1 : Int32)) (v := (.double x_r0_1)) (by rw [eo21]; exact Aro27.1) (State.isArrayOf_alike hZ.alike Aro27.2.1) Aro27.2.2 hi28 ha29 (g := (mkF m 62 #[.val (.ref r0), .val (.ref bn2), .val (.int 1)] [(.int 1), (.ref r0), (.double 0), (.int 1), (.ref bn2)])) rfl rfl (hb hby own_d1_62) _ ?_
    show Steps p.tables e below (To21.setTop (mkF m 63 #[.val (.ref r0), .val (.ref bn2), .val (.int 1)] [(.double x_r0_1), (.double 0), (.int 1), (.ref bn2)])) _
    refine Xo21.ldc2DoubleC hx hown (mvT hZ (own_W hw 14 rfl)) (g := (mkF m 63 #[.val (.ref r0), .val (.ref bn2), .val (.int 1)] [(.double x_r0_1), (.double 0), (.int 1), (.ref bn2)])) rfl (hb hby own_d1_63) _ ?_
    refine XS.ddivS Xo21.here hx rfl (hb hby own_d1_66) rfl nn49 rfl ?_
    refine XS.daddS Xo21.here hx rfl (hb hby own_d1_67) rfl nn67 rfl ?_
    refine sto30 _ ?_
    show Steps p.tables e below (To30.setTop (mkF m 69 #[.val (.ref r0), .val (.ref bn2), .val (.int 1)] [])) _
    refine XS.iinc Xo30.here hx rfl (hb hby own_d1_69) rfl (l' := #[.val (.ref r0), .val (.ref bn2), .val (.int 2)]) rfl ?_
    refine XS.goto Xo30.here hx rfl (pc0 := 72) (pc' := 11) rfl (hb hby own_d1_72) (by decide) (by decide) ?_
    refine XS.iloadN Xo30.here hx rfl (hb hby own_d1_11) rfl ?_
    refine XS.aloadN Xo30.here hx rfl (hb hby own_d1_12) rfl rfl ?_
    refine Xo30.arraylength hx (by rw [eo30]; exact Aro33.1) (State.isArrayOf_alike hZ.alike Aro33.2.1) (g := (mkF m 13 #[.val (.ref r0), .val (.ref bn2), .val (.int 2)] [(.ref r0), (.int 2)])) rfl rfl (hb hby own_d1_13) _ ?_
    rw [len_of So33 No33]
    show Steps p.tables e below (To30.setTop (mkF m 14 #[.val (.ref r0), .val (.ref bn2), .val (.int 2)] [(.int 6), (.int 2)])) _
    refine XS.icmpNo Xo30.here hx rfl (hb hby own_d1_14) rfl (XT.ii_ge_f (by decide : (2 : Int32) < (6 : Int32))) ?_
    refine XS.iloadN Xo30.here hx rfl (hb hby own_d1_17) rfl ?_
    refine XS.iconst Xo30.here hx rfl (hb hby own_d1_18) ?_
    refine XS.irem Xo30.here hx rfl (hb hby own_d1_19) rfl (by decide) ?_
    show Steps p.tables e below (To30.setTop (mkF m 20 #[.val (.ref r0), .val (.ref bn2), .val (.int 2)] [(.int 0)])) _
    refine XS.ifNo Xo30.here hx rfl (hb hby own_d1_20) rfl (XT.i0_ne_f (by decide : (0 : Int32) = (0 : Int32))) ?_
    refine XS.aloadN Xo30.here hx rfl (hb hby own_d1_23) rfl rfl ?_
    refine XS.iloadN Xo30.here hx rfl (hb hby own_d1_24) rfl ?_
    refine XS.iconst Xo30.here hx rfl (hb hby own_d1_25) ?_
    refine XS.idiv Xo30.here hx rfl (hb hby own_d1_26) rfl (by decide) ?_
    show Steps p.tables e below (To30.setTop (mkF m 27 #[.val (.ref r0), .val (.ref bn2), .val (.int 2)] [(.int 1), (.ref bn2)])) _
    refine XT.dup2 Xo30.here hx rfl (hb hby own_d1_27) rfl rfl rfl ?_
    refine Xo30.daload hx (j := (1 : Int32)) (v := (.double (own_vh6_1 x_r0_1))) (by rw [eo30]; exact Aro34.1) (State.isArrayOf_alike hZ.alike Aro34.2.1) Aro34.2.2 hi35 ha36 (g := (mkF m 28 #[.val (.ref r0), .val (.ref bn2), .val (.int 2)] [(.int 1), (.ref bn2), (.int 1), (.ref bn2)])) rfl rfl (hb hby own_d1_28) _ ?_
    refine XS.aloadN Xo30.here hx rfl (hb hby own_d1_29) rfl rfl ?_
    refine XS.iloadN Xo30.here hx rfl (hb hby own_d1_30) rfl ?_
    refine Xo30.daload hx (j := (2 : Int32)) (v := (.double x_r0_2)) (by rw [eo30]; exact Aro33.1) (State.isArrayOf_alike hZ.alike Aro33.2.1) Aro33.2.2 hi37 ha38 (g := (mkF m 31 #[.val (.ref r0), .val (.ref bn2), .val (.int 2)] [(.int 2), (.ref r0), (.double (own_vh6_1 x_r0_1)), (.int 1), (.ref bn2)])) rfl rfl (hb hby own_d1_31) _ ?_
    show Steps p.tables e below (To30.setTop (mkF m 32 #[.val (.ref r0), .val (.ref bn2), .val (.int 2)] [(.double x_r0_2), (.double (own_vh6_1 x_r0_1)), (.int 1), (.ref bn2)])) _
    refine XS.daddS Xo30.here hx rfl (hb hby own_d1_32) rfl nn32_2 rfl ?_
    refine sto39 _ ?_
    refine XS.goto Xo39.here hx rfl (pc0 := 34) (pc' := 69) rfl (hb hby own_d1_34) (by decide) (by decide) ?_
    refine XS.iinc Xo39.here hx rfl (hb hby own_d1_69) rfl (l' := #[.val (.ref r0), .val (.ref bn2), .val (.int 3)]) rfl ?_
    refine XS.goto Xo39.here hx rfl (pc0 := 72) (pc' := 11) rfl (hb hby own_d1_72) (by decide) (by decide) ?_
    refine XS.iloadN Xo39.here hx rfl (hb hby own_d1_11) rfl ?_
    refine XS.aloadN Xo39.here hx rfl (hb hby own_d1_12) rfl rfl ?_
    refine Xo39.arraylength hx (by rw [eo39]; exact Aro42.1) (State.isArrayOf_alike hZ.alike Aro42.2.1) (g := (mkF m 13 #[.val (.ref r0), .val (.ref bn2), .val (.int 3)] [(.ref r0), (.int 3)])) rfl rfl (hb hby own_d1_13) _ ?_
    rw [len_of So42 No42]
    show Steps p.tables e below (To39.setTop (mkF m 14 #[.val (.ref r0), .val (.ref bn2), .val (.int 3)] [(.int 6), (.int 3)])) _
    refine XS.icmpNo Xo39.here hx rfl (hb hby own_d1_14) rfl (XT.ii_ge_f (by decide : (3 : Int32) < (6 : Int32))) ?_
    refine XS.iloadN Xo39.here hx rfl (hb hby own_d1_17) rfl ?_
    refine XS.iconst Xo39.here hx rfl (hb hby own_d1_18) ?_
    refine XS.irem Xo39.here hx rfl (hb hby own_d1_19) rfl (by decide) ?_
    show Steps p.tables e below (To39.setTop (mkF m 20 #[.val (.ref r0), .val (.ref bn2), .val (.int 3)] [(.int 1)])) _
    refine XS.ifYes Xo39.here hx rfl (pc0 := 20) (pc' := 37) rfl (hb hby own_d1_20) rfl (XT.i0_ne_t (by decide : ¬ ((1 : Int32) = (0 : Int32)))) (by decide) (by decide) ?_
    refine XS.aloadN Xo39.here hx rfl (hb hby own_d1_37) rfl rfl ?_
    refine XS.iloadN Xo39.here hx rfl (hb hby own_d1_38) rfl ?_
    refine XS.iconst Xo39.here hx rfl (hb hby own_d1_39) ?_
    refine XS.idiv Xo39.here hx rfl (hb hby own_d1_40) rfl (by decide) ?_
    show Steps p.tables e below (To39.setTop (mkF m 41 #[.val (.ref r0), .val (.ref bn2), .val (.int 3)] [(.int 1), (.ref bn2)])) _
    refine XT.dup2 Xo39.here hx rfl (hb hby own_d1_41) rfl rfl rfl ?_
    refine Xo39.daload hx (j := (1 : Int32)) (v := (.double (own_vh6_2 x_r0_1 x_r0_2))) (by rw [eo39]; exact Aro43.1) (State.isArrayOf_alike hZ.alike Aro43.2.1) Aro43.2.2 hi44 ha45 (g := (mkF m 42 #[.val (.ref r0), .val (.ref bn2), .val (.int 3)] [(.int 1), (.ref bn2), (.int 1), (.ref bn2)])) rfl rfl (hb hby own_d1_42) _ ?_
    refine XS.aloadN Xo39.here hx rfl (hb hby own_d1_43) rfl rfl ?_
    refine XS.iloadN Xo39.here hx rfl (hb hby own_d1_44) rfl ?_
    refine Xo39.daload hx (j := (3 : Int32)) (v := (.double x_r0_3)) (by rw [eo39]; exact Aro42.1) (State.isArrayOf_alike hZ.alike Aro42.2.1) Aro42.2.2 hi46 ha47 (g := (mkF m 45 #[.val (.ref r0), .val (.ref bn2), .val (.int 3)] [(.int 3), (.ref r0), (.double (own_vh6_2 x_r0_1 x_r0_2)), (.int 1), (.ref bn2)])) rfl rfl (hb hby own_d1_45) _ ?_
    show Steps p.tables e below (To39.setTop (mkF m 46 #[.val (.ref r0), .val (.ref bn2), .val (.int 3)] [(.double x_r0_3), (.double (own_vh6_2 x_r0_1 x_r0_2)), (.int 1), (.ref bn2)])) _
    refine Xo39.ldc2DoubleC hx hown (mvT hZ (own_W hw 14 rfl)) (g := (mkF m 46 #[.val (.ref r0), .val (.ref bn2), .val (.int 3)] [(.double x_r0_3), (.double (own_vh6_2 x_r0_1 x_r0_2)), (.int 1), (.ref bn2)])) rfl (hb hby own_d1_46) _ ?_
    refine XS.ddivS Xo39.here hx rfl (hb hby own_d1_49) rfl nn49_2 rfl ?_
    refine XS.daddS Xo39.here hx rfl (hb hby own_d1_50) rfl nn50_2 rfl ?_
    refine sto48 _ ?_
    show Steps p.tables e below (To48.setTop (mkF m 52 #[.val (.ref r0), .val (.ref bn2), .val (.int 3)] [])) _
    refine XS.aloadN Xo48.here hx rfl (hb hby own_d1_52) rfl rfl ?_
    refine XS.iloadN Xo48.here hx rfl (hb hby own_d1_53) rfl ?_
    refine XS.iconst Xo48.here hx rfl (hb hby own_d1_54) ?_
    refine XS.idiv Xo48.here hx rfl (hb hby own_d1_55) rfl (by decide) ?_
    show Steps p.tables e below (To48.setTop (mkF m 56 #[.val (.ref r0), .val (.ref bn2), .val (.int 3)] [(.int 1), (.ref bn2)])) _
    refine XS.iconst Xo48.here hx rfl (hb hby own_d1_56) ?_
    refine XS.iadd Xo48.here hx rfl (hb hby own_d1_57) rfl ?_
    show Steps p.tables e below (To48.setTop (mkF m 58 #[.val (.ref r0), .val (.ref bn2), .val (.int 3)] [(.int 2), (.ref bn2)])) _
    refine XT.dup2 Xo48.here hx rfl (hb hby own_d1_58) rfl rfl rfl ?_
    refine Xo48.daload hx (j := (2 : Int32)) (v := (.double 0)) (by rw [eo48]; exact Aro50.1) (State.isArrayOf_alike hZ.alike Aro50.2.1) Aro50.2.2 hi51 ha52 (g := (mkF m 59 #[.val (.ref r0), .val (.ref bn2), .val (.int 3)] [(.int 2), (.ref bn2), (.int 2), (.ref bn2)])) rfl rfl (hb hby own_d1_59) _ ?_
    refine XS.aloadN Xo48.here hx rfl (hb hby own_d1_60) rfl rfl ?_
    refine XS.iloadN Xo48.here hx rfl (hb hby own_d1_61) rfl ?_
    refine Xo48.daload hx (j := (3 : Int32)) (v := (.double x_r0_3)) (by rw [eo48]; exact Aro54.1) (State.isArrayOf_alike hZ.alike Aro54.2.1) Aro54.2.2 hi55 ha56 (g := (mkF m 62 #[.val (.ref r0), .val (.ref bn2), .val (.int 3)] [(.int 3), (.ref r0), (.double 0), (.int 2), (.ref bn2)])) rfl rfl (hb hby own_d1_62) _ ?_
    show Steps p.tables e below (To48.setTop (mkF m 63 #[.val (.ref r0), .val (.ref bn2), .val (.int 3)] [(.double x_r0_3), (.double 0), (.int 2), (.ref bn2)])) _
    refine Xo48.ldc2DoubleC hx hown (mvT hZ (own_W hw 14 rfl)) (g := (mkF m 63 #[.val (.ref r0), .val (.ref bn2), .val (.int 3)] [(.double x_r0_3), (.double 0), (.int 2), (.ref bn2)])) rfl (hb hby own_d1_63) _ ?_
    refine XS.ddivS Xo48.here hx rfl (hb hby own_d1_66) rfl nn49_2 rfl ?_
    refine XS.daddS Xo48.here hx rfl (hb hby own_d1_67) rfl nn67_2 rfl ?_
    refine sto57 _ ?_
    show Steps p.tables e below (To57.setTop (mkF m 69 #[.val (.ref r0), .val (.ref bn2), .val (.int 3)] [])) _
    refine XS.iinc Xo57.here hx rfl (hb hby own_d1_69) rfl (l' := #[.val (.ref r0), .val (.ref bn2), .val (.int 4)]) rfl ?_
    refine XS.goto Xo57.here hx rfl (pc0 := 72) (pc' := 11) rfl (hb hby own_d1_72) (by decide) (by decide) ?_
    refine XS.iloadN Xo57.here hx rfl (hb hby own_d1_11) rfl ?_
    refine XS.aloadN Xo57.here hx rfl (hb hby own_d1_12) rfl rfl ?_
    refine Xo57.arraylength hx (by rw [eo57]; exact Aro60.1) (State.isArrayOf_alike hZ.alike Aro60.2.1) (g := (mkF m 13 #[.val (.ref r0), .val (.ref bn2), .val (.int 4)] [(.ref r0), (.int 4)])) rfl rfl (hb hby own_d1_13) _ ?_
    rw [len_of So60 No60]
    show Steps p.tables e below (To57.setTop (mkF m 14 #[.val (.ref r0), .val (.ref bn2), .val (.int 4)] [(.int 6), (.int 4)])) _
    refine XS.icmpNo Xo57.here hx rfl (hb hby own_d1_14) rfl (XT.ii_ge_f (by decide : (4 : Int32) < (6 : Int32))) ?_
    refine XS.iloadN Xo57.here hx rfl (hb hby own_d1_17) rfl ?_
    refine XS.iconst Xo57.here hx rfl (hb hby own_d1_18) ?_
    refine XS.irem Xo57.here hx rfl (hb hby own_d1_19) rfl (by decide) ?_
    show Steps p.tables e below (To57.setTop (mkF m 20 #[.val (.ref r0), .val (.ref bn2), .val (.int 4)] [(.int 0)])) _
    refine XS.ifNo Xo57.here hx rfl (hb hby own_d1_20) rfl (XT.i0_ne_f (by decide : (0 : Int32) = (0 : Int32))) ?_
    refine XS.aloadN Xo57.here hx rfl (hb hby own_d1_23) rfl rfl ?_
    refine XS.iloadN Xo57.here hx rfl (hb hby own_d1_24) rfl ?_
    refine XS.iconst Xo57.here hx rfl (hb hby own_d1_25) ?_
    refine XS.idiv Xo57.here hx rfl (hb hby own_d1_26) rfl (by decide) ?_
    show Steps p.tables e below (To57.setTop (mkF m 27 #[.val (.ref r0), .val (.ref bn2), .val (.int 4)] [(.int 2), (.ref bn2)])) _
    refine XT.dup2 Xo57.here hx rfl (hb hby own_d1_27) rfl rfl rfl ?_
    refine Xo57.daload hx (j := (2 : Int32)) (v := (.double (own_vh6_4 x_r0_3))) (by rw [eo57]; exact Aro61.1) (State.isArrayOf_alike hZ.alike Aro61.2.1) Aro61.2.2 hi62 ha63 (g := (mkF m 28 #[.val (.ref r0), .val (.ref bn2), .val (.int 4)] [(.int 2), (.ref bn2), (.int 2), (.ref bn2)])) rfl rfl (hb hby own_d1_28) _ ?_
    refine XS.aloadN Xo57.here hx rfl (hb hby own_d1_29) rfl rfl ?_
    refine XS.iloadN Xo57.here hx rfl (hb hby own_d1_30) rfl ?_
    refine Xo57.daload hx (j := (4 : Int32)) (v := (.double x_r0_4)) (by rw [eo57]; exact Aro60.1) (State.isArrayOf_alike hZ.alike Aro60.2.1) Aro60.2.2 hi64 ha65 (g := (mkF m 31 #[.val (.ref r0), .val (.ref bn2), .val (.int 4)] [(.int 4), (.ref r0), (.double (own_vh6_4 x_r0_3)), (.int 2), (.ref bn2)])) rfl rfl (hb hby own_d1_31) _ ?_
    show Steps p.tables e below (To57.setTop (mkF m 32 #[.val (.ref r0), .val (.ref bn2), .val (.int 4)] [(.double x_r0_4), (.double (own_vh6_4 x_r0_3)), (.int 2), (.ref bn2)])) _
    refine XS.daddS Xo57.here hx rfl (hb hby own_d1_32) rfl nn32_3 rfl ?_
    refine sto66 _ ?_
    refine XS.goto Xo66.here hx rfl (pc0 := 34) (pc' := 69) rfl (hb hby own_d1_34) (by decide) (by decide) ?_
    refine XS.iinc Xo66.here hx rfl (hb hby own_d1_69) rfl (l' := #[.val (.ref r0), .val (.ref bn2), .val (.int 5)]) rfl ?_
    refine XS.goto Xo66.here hx rfl (pc0 := 72) (pc' := 11) rfl (hb hby own_d1_72) (by decide) (by decide) ?_
    refine XS.iloadN Xo66.here hx rfl (hb hby own_d1_11) rfl ?_
    refine XS.aloadN Xo66.here hx rfl (hb hby own_d1_12) rfl rfl ?_
    refine Xo66.arraylength hx (by rw [eo66]; exact Aro69.1) (State.isArrayOf_alike hZ.alike Aro69.2.1) (g := (mkF m 13 #[.val (.ref r0), .val (.ref bn2), .val (.int 5)] [(.ref r0), (.int 5)])) rfl rfl (hb hby own_d1_13) _ ?_
    rw [len_of So69 No69]
    show Steps p.tables e below (To66.setTop (mkF m 14 #[.val (.ref r0), .val (.ref bn2), .val (.int 5)] [(.int 6), (.int 5)])) _
    refine XS.icmpNo Xo66.here hx rfl (hb hby own_d1_14) rfl (XT.ii_ge_f (by decide : (5 : Int32) < (6 : Int32))) ?_
    refine XS.iloadN Xo66.here hx rfl (hb hby own_d1_17) rfl ?_
    refine XS.iconst Xo66.here hx rfl (hb hby own_d1_18) ?_
    refine XS.irem Xo66.here hx rfl (hb hby own_d1_19) rfl (by decide) ?_
    show Steps p.tables e below (To66.setTop (mkF m 20 #[.val (.ref r0), .val (.ref bn2), .val (.int 5)] [(.int 1)])) _
    refine XS.ifYes Xo66.here hx rfl (pc0 := 20) (pc' := 37) rfl (hb hby own_d1_20) rfl (XT.i0_ne_t (by decide : ¬ ((1 : Int32) = (0 : Int32)))) (by decide) (by decide) ?_
    refine XS.aloadN Xo66.here hx rfl (hb hby own_d1_37) rfl rfl ?_
    refine XS.iloadN Xo66.here hx rfl (hb hby own_d1_38) rfl ?_
    refine XS.iconst Xo66.here hx rfl (hb hby own_d1_39) ?_
    refine XS.idiv Xo66.here hx rfl (hb hby own_d1_40) rfl (by decide) ?_
    show Steps p.tables e below (To66.setTop (mkF m 41 #[.val (.ref r0), .val (.ref bn2), .val (.int 5)] [(.int 2), (.ref bn2)])) _
    refine XT.dup2 Xo66.here hx rfl (hb hby own_d1_41) rfl rfl rfl ?_
    refine Xo66.daload hx (j := (2 : Int32)) (v := (.double (own_vh6_5 x_r0_3 x_r0_4))) (by rw [eo66]; exact Aro70.1) (State.isArrayOf_alike hZ.alike Aro70.2.1) Aro70.2.2 hi71 ha72 (g := (mkF m 42 #[.val (.ref r0), .val (.ref bn2), .val (.int 5)] [(.int 2), (.ref bn2), (.int 2), (.ref bn2)])) rfl rfl (hb hby own_d1_42) _ ?_
    refine XS.aloadN Xo66.here hx rfl (hb hby own_d1_43) rfl rfl ?_
    refine XS.iloadN Xo66.here hx rfl (hb hby own_d1_44) rfl ?_
    refine Xo66.daload hx (j := (5 : Int32)) (v := (.double x_r0_5)) (by rw [eo66]; exact Aro69.1) (State.isArrayOf_alike hZ.alike Aro69.2.1) Aro69.2.2 hi73 ha74 (g := (mkF m 45 #[.val (.ref r0), .val (.ref bn2), .val (.int 5)] [(.int 5), (.ref r0), (.double (own_vh6_5 x_r0_3 x_r0_4)), (.int 2), (.ref bn2)])) rfl rfl (hb hby own_d1_45) _ ?_
    show Steps p.tables e below (To66.setTop (mkF m 46 #[.val (.ref r0), .val (.ref bn2), .val (.int 5)] [(.double x_r0_5), (.double (own_vh6_5 x_r0_3 x_r0_4)), (.int 2), (.ref bn2)])) _
    refine Xo66.ldc2DoubleC hx hown (mvT hZ (own_W hw 14 rfl)) (g := (mkF m 46 #[.val (.ref r0), .val (.ref bn2), .val (.int 5)] [(.double x_r0_5), (.double (own_vh6_5 x_r0_3 x_r0_4)), (.int 2), (.ref bn2)])) rfl (hb hby own_d1_46) _ ?_
    refine XS.ddivS Xo66.here hx rfl (hb hby own_d1_49) rfl nn49_3 rfl ?_
    refine XS.daddS Xo66.here hx rfl (hb hby own_d1_50) rfl nn50_3 rfl ?_
    refine sto75 _ ?_
    show Steps p.tables e below (To75.setTop (mkF m 52 #[.val (.ref r0), .val (.ref bn2), .val (.int 5)] [])) _
    refine XS.aloadN Xo75.here hx rfl (hb hby own_d1_52) rfl rfl ?_
    refine XS.iloadN Xo75.here hx rfl (hb hby own_d1_53) rfl ?_
    refine XS.iconst Xo75.here hx rfl (hb hby own_d1_54) ?_
    refine XS.idiv Xo75.here hx rfl (hb hby own_d1_55) rfl (by decide) ?_
    show Steps p.tables e below (To75.setTop (mkF m 56 #[.val (.ref r0), .val (.ref bn2), .val (.int 5)] [(.int 2), (.ref bn2)])) _
    refine XS.iconst Xo75.here hx rfl (hb hby own_d1_56) ?_
    refine XS.iadd Xo75.here hx rfl (hb hby own_d1_57) rfl ?_
    show Steps p.tables e below (To75.setTop (mkF m 58 #[.val (.ref r0), .val (.ref bn2), .val (.int 5)] [(.int 3), (.ref bn2)])) _
    refine XT.dup2 Xo75.here hx rfl (hb hby own_d1_58) rfl rfl rfl ?_
    refine Xo75.daload hx (j := (3 : Int32)) (v := (.double 0)) (by rw [eo75]; exact Aro77.1) (State.isArrayOf_alike hZ.alike Aro77.2.1) Aro77.2.2 hi78 ha79 (g := (mkF m 59 #[.val (.ref r0), .val (.ref bn2), .val (.int 5)] [(.int 3), (.ref bn2), (.int 3), (.ref bn2)])) rfl rfl (hb hby own_d1_59) _ ?_
    refine XS.aloadN Xo75.here hx rfl (hb hby own_d1_60) rfl rfl ?_
    refine XS.iloadN Xo75.here hx rfl (hb hby own_d1_61) rfl ?_
    refine Xo75.daload hx (j := (5 : Int32)) (v := (.double x_r0_5)) (by rw [eo75]; exact Aro81.1) (State.isArrayOf_alike hZ.alike Aro81.2.1) Aro81.2.2 hi82 ha83 (g := (mkF m 62 #[.val (.ref r0), .val (.ref bn2), .val (.int 5)] [(.int 5), (.ref r0), (.double 0), (.int 3), (.ref bn2)])) rfl rfl (hb hby own_d1_62) _ ?_
    show Steps p.tables e below (To75.setTop (mkF m 63 #[.val (.ref r0), .val (.ref bn2), .val (.int 5)] [(.double x_r0_5), (.double 0), (.int 3), (.ref bn2)])) _
    refine Xo75.ldc2DoubleC hx hown (mvT hZ (own_W hw 14 rfl)) (g := (mkF m 63 #[.val (.ref r0), .val (.ref bn2), .val (.int 5)] [(.double x_r0_5), (.double 0), (.int 3), (.ref bn2)])) rfl (hb hby own_d1_63) _ ?_
    refine XS.ddivS Xo75.here hx rfl (hb hby own_d1_66) rfl nn49_3 rfl ?_
    refine XS.daddS Xo75.here hx rfl (hb hby own_d1_67) rfl nn67_3 rfl ?_
    refine sto84 _ ?_
    show Steps p.tables e below (To84.setTop (mkF m 69 #[.val (.ref r0), .val (.ref bn2), .val (.int 5)] [])) _
    refine XS.iinc Xo84.here hx rfl (hb hby own_d1_69) rfl (l' := #[.val (.ref r0), .val (.ref bn2), .val (.int 6)]) rfl ?_
    refine XS.goto Xo84.here hx rfl (pc0 := 72) (pc' := 11) rfl (hb hby own_d1_72) (by decide) (by decide) ?_
    refine XS.iloadN Xo84.here hx rfl (hb hby own_d1_11) rfl ?_
    refine XS.aloadN Xo84.here hx rfl (hb hby own_d1_12) rfl rfl ?_
    refine Xo84.arraylength hx (by rw [eo84]; exact Aro87.1) (State.isArrayOf_alike hZ.alike Aro87.2.1) (g := (mkF m 13 #[.val (.ref r0), .val (.ref bn2), .val (.int 6)] [(.ref r0), (.int 6)])) rfl rfl (hb hby own_d1_13) _ ?_
    rw [len_of So87 No87]
    show Steps p.tables e below (To84.setTop (mkF m 14 #[.val (.ref r0), .val (.ref bn2), .val (.int 6)] [(.int 6), (.int 6)])) _
    refine XS.icmpYes Xo84.here hx rfl (pc0 := 14) (pc' := 75) rfl (hb hby own_d1_14) rfl (XT.ii_ge_t (by decide : ¬ ((6 : Int32) < (6 : Int32)))) (by decide) (by decide) ?_
    refine XS.aloadN Xo84.here hx rfl (hb hby own_d1_75) rfl rfl ?_
    show Steps p.tables e below (To84.setTop (mkF m 76 #[.val (.ref r0), .val (.ref bn2), .val (.int 6)] [(.ref bn2)])) _
    jvm_step Xo84.here [Xo84.here.top, hx, (hb hby own_d1_76), Xo84.method', Bd.returns, Value.isRef, FieldType.isReference]
    first | (intro acts; rw [hr _ acts rfl rfl rfl]) | rw [hr _ _ rfl rfl rfl]
    exact Steps.refl _
  · show own_Qh6 Z r0 k_r0 x_r0_0 x_r0_1 x_r0_2 x_r0_3 x_r0_4 x_r0_5 h0 n0 _ To84.heap _
    rw [eo84]
    exact ⟨bn2, kn2, rfl, Nfo84, (((((((((((Keep.refl h0 []).ext En2).wr Wo11 (Or.inr sz_bn2)).wr Wo21 (Or.inr sz_bn2)).wr Wo30 (Or.inr sz_bn2)).wr Wo39 (Or.inr sz_bn2)).wr Wo48 (Or.inr sz_bn2)).wr Wo57 (Or.inr sz_bn2)).wr Wo66 (Or.inr sz_bn2)).wr Wo75 (Or.inr sz_bn2)).wr Wo84 (Or.inr sz_bn2)), sz_bn2, Vwo84⟩
def own_vh7_0 (x_r0_0 : UInt64) (x_r0_1 : UInt64) : UInt64 := (FP.dadd (FP.dadd (0 : UInt64) x_r0_0) (FP.ddiv x_r0_1 (4611686018427387904 : UInt64)))
def own_vh7_1 (x_r0_1 : UInt64) : UInt64 := (FP.dadd (0 : UInt64) (FP.ddiv x_r0_1 (4611686018427387904 : UInt64)))
def own_vh7_2 (x_r0_1 : UInt64) (x_r0_2 : UInt64) : UInt64 := (FP.dadd (own_vh7_1 x_r0_1) x_r0_2)
def own_vh7_3 (x_r0_1 : UInt64) (x_r0_2 : UInt64) (x_r0_3 : UInt64) : UInt64 := (FP.dadd (own_vh7_2 x_r0_1 x_r0_2) (FP.ddiv x_r0_3 (4611686018427387904 : UInt64)))
def own_vh7_4 (x_r0_3 : UInt64) : UInt64 := (FP.dadd (0 : UInt64) (FP.ddiv x_r0_3 (4611686018427387904 : UInt64)))
def own_vh7_5 (x_r0_3 : UInt64) (x_r0_4 : UInt64) : UInt64 := (FP.dadd (own_vh7_4 x_r0_3) x_r0_4)
def own_vh7_6 (x_r0_3 : UInt64) (x_r0_4 : UInt64) (x_r0_5 : UInt64) : UInt64 := (FP.dadd (own_vh7_5 x_r0_3 x_r0_4) (FP.ddiv x_r0_5 (4611686018427387904 : UInt64)))
def own_vh7_7 (x_r0_5 : UInt64) : UInt64 := (FP.dadd (0 : UInt64) (FP.ddiv x_r0_5 (4611686018427387904 : UInt64)))
def own_vh7_8 (x_r0_5 : UInt64) (x_r0_6 : UInt64) : UInt64 := (FP.dadd (own_vh7_7 x_r0_5) x_r0_6)
theorem own_efh7 (m : MethodId) (r0 : Addr) : entryFrame m #[(.ref r0)] 3 = mkF m 0 #[.val (.ref r0), .unset, .unset] [] := by first | (simp [entryFrame, mkF, argsToLocals, Value.category]; done) | rfl
def own_Qh7 (Z : State) (r0 : Addr) (k_r0 : ClassId) (x_r0_0 : UInt64) (x_r0_1 : UInt64) (x_r0_2 : UInt64) (x_r0_3 : UInt64) (x_r0_4 : UInt64) (x_r0_5 : UInt64) (x_r0_6 : UInt64) (h0 : Heap) (n0 : Nat) (v : Option Value) (h : Heap) (L : List Loc) : Prop := ∃ (bn2 : Addr) (kn2 : ClassId), v = some (.ref bn2) ∧ Fr n0 L ∧ Keep h0 h [] ∧ h0.size ≤ bn2 ∧ Arv Z h bn2 kn2 .double (4 : Int32) [(.double (own_vh7_0 x_r0_0 x_r0_1)), (.double (own_vh7_3 x_r0_1 x_r0_2 x_r0_3)), (.double (own_vh7_6 x_r0_3 x_r0_4 x_r0_5)), (.double (own_vh7_8 x_r0_5 x_r0_6))] (.double 0)
set_option maxRecDepth 65536 in
set_option maxHeartbeats 40000000 in
theorem own_rmh7 (l : Launch) (Z : State) (a0 : Array Value) (hw : ∀ d ∈ tables_1, d.before a0 Z = true) (ws : List Jvm.Cond) (r0 : Addr) (k_r0 : ClassId) (x_r0_0 : UInt64) (x_r0_1 : UInt64) (x_r0_2 : UInt64) (x_r0_3 : UInt64) (x_r0_4 : UInt64) (x_r0_5 : UInt64) (x_r0_6 : UInt64) (h0 : Heap) (n0 : Nat) (Z0 : n0 ≤ h0.size) (V_r0 : Arv Z h0 r0 k_r0 .double (7 : Int32) [(.double x_r0_0), (.double x_r0_1), (.double x_r0_2), (.double x_r0_3), (.double x_r0_4), (.double x_r0_5), (.double x_r0_6)] (.double 0)) (nn32 : NoNaN64 (FP.dadd (0 : UInt64) x_r0_0)) (nn49 : NoNaN64 (FP.ddiv x_r0_1 (4611686018427387904 : UInt64))) (nn50 : NoNaN64 (FP.dadd (FP.dadd (0 : UInt64) x_r0_0) (FP.ddiv x_r0_1 (4611686018427387904 : UInt64)))) (nn67 : NoNaN64 (FP.dadd (0 : UInt64) (FP.ddiv x_r0_1 (4611686018427387904 : UInt64)))) (nn32_2 : NoNaN64 (FP.dadd (own_vh7_1 x_r0_1) x_r0_2)) (nn49_2 : NoNaN64 (FP.ddiv x_r0_3 (4611686018427387904 : UInt64))) (nn50_2 : NoNaN64 (FP.dadd (own_vh7_2 x_r0_1 x_r0_2) (FP.ddiv x_r0_3 (4611686018427387904 : UInt64)))) (nn67_2 : NoNaN64 (FP.dadd (0 : UInt64) (FP.ddiv x_r0_3 (4611686018427387904 : UInt64)))) (nn32_3 : NoNaN64 (FP.dadd (own_vh7_4 x_r0_3) x_r0_4)) (nn49_3 : NoNaN64 (FP.ddiv x_r0_5 (4611686018427387904 : UInt64))) (nn50_3 : NoNaN64 (FP.dadd (own_vh7_5 x_r0_3 x_r0_4) (FP.ddiv x_r0_5 (4611686018427387904 : UInt64)))) (nn67_3 : NoNaN64 (FP.dadd (0 : UInt64) (FP.ddiv x_r0_5 (4611686018427387904 : UInt64)))) (nn32_4 : NoNaN64 (FP.dadd (own_vh7_7 x_r0_5) x_r0_6)) :
    MetFree l (⟨"com/example/surepath/surepath/TravelTime$Lattices", "halved", "([D)[D"⟩ : MethodName) (head1 (Jvm.Cond.code (⟨"com/example/surepath/surepath/TravelTime$Lattices", "halved", "([D)[D"⟩ : MethodName) prog_64_method_16_code 3 (some (.array .double)) :: ws) ({ frames := 0, cells := 1, slots := 4, locals := 0 } : Room)) (fun a U => a = #[(.ref r0)] ∧ Z.Warmed39 U.vm ∧ U.heap = h0) (fun _ _ _ _ _ => True) (fun _ U o U' => ∃ v L, o = .returned v ∧ own_Qh7 Z r0 k_r0 x_r0_0 x_r0_1 x_r0_2 x_r0_3 x_r0_4 x_r0_5 x_r0_6 h0 n0 v U'.heap L ∧ FrameEnd U o U' L ({ frames := 0, cells := 1, slots := 4, locals := 0 } : Room).cells ({ frames := 0, cells := 1, slots := 4, locals := 0 } : Room).slots) := by
  refine MetFree.of_bodySF (plainFor_of_name own_pn1) hisR ?_
  intro p e s m args below meth c s₁ Bd hml0 hP hK
  obtain ⟨rfl, hZ, hh⟩ := hP
  have hx := Bd.exec
  have hby := Bd.bytes
  have hml : c.maxLocals = 3 := hml0
  have hown : s.vm.findClass "com/example/surepath/surepath/TravelTime$Lattices" = some m.cls := findClass_of_methodNamed Bd.named
  have hnm := (name_of_methodNamed Bd.named Bd.method).1
  have X0 : Stand p l e ({ frames := 0, cells := 1, slots := 4, locals := 0 } : Room) s m #[(.ref r0)] below meth c s₁ [] 0 0 := Stand.of_body Bd
  have e0 : s₁.heap = h0 := by rw [← hh, Bd.state]; rfl
  have N0 := Fr.nil n0
  have Zr : h0.size ≤ h0.size := Nat.le_refl _
  have pre0 : ∀ t, Steps p.tables e below (s₁.setTop (mkF m 0 #[.val (.ref r0), .unset, .unset] [])) t → Steps p.tables e below (s₁.setTop (entryFrame m #[(.ref r0)] 3)) t := fun t k => castTop (own_efh7 m r0) k
  obtain ⟨clo1, Aro1, qo1, So1, No1, Ho1, Go1⟩ := id V_r0
  obtain ⟨Tn2, hn2, kn2, Xn2, en2, En2, An2, stn2⟩ := newP X0 hx hZ (own_W hw 1 rfl) e0 (g := (mkF m 6 #[.val (.ref r0), .unset, .unset] [(.int 4)])) rfl (hb hby own_d1_6) rfl (by decide) (cap := 4) (by decide) (by decide) (by decide) (by decide)
  obtain ⟨bn2, gn2⟩ : ∃ z, z = h0.size := ⟨_, rfl⟩
  rw [← gn2] at An2 stn2
  have g_bn2 : n0 ≤ bn2 := Nat.le_trans Z0 (Nat.le_of_eq gn2.symm)
  have sz_bn2 : h0.size ≤ bn2 := Nat.le_trans Zr (Nat.le_of_eq gn2.symm)
  have sz3 : h0.size ≤ hn2.size := Nat.le_trans Zr En2.1
  have V_bn2 : Arv Z hn2 bn2 kn2 .double (4 : Int32) [(.double 0), (.double 0), (.double 0), (.double 0)] (.double 0) := (Arv.new An2 (by decide)).pad (pad_rep [] (.double 0) 4)
  have F4 := (V_r0.ext En2)
  obtain ⟨clo5, Aro5, qo5, So5, No5, Ho5, Go5⟩ := id F4
  obtain ⟨clo6, Aro6, qo6, So6, No6, Ho6, Go6⟩ := id V_bn2
  have hi7 := inb_of (j := (0 : Int32)) So6 ⟨by decide, by decide⟩
  have ha8 : _ = some (Value.double (0 : UInt64)) := Ho6.at hi7 rfl
  have hi9 := inb_of (j := (0 : Int32)) So5 ⟨by decide, by decide⟩
  have ha10 : _ = some (Value.double x_r0_0) := Ho5.at hi9 rfl
  obtain ⟨To11, ho11, Xo11, eo11, Wo11, sto11⟩ := stD Xn2 hx hZ en2 Aro6 (j := (0 : Int32)) hi7 (g := (mkF m 33 #[.val (.ref r0), .val (.ref bn2), .val (.int 0)] [(.double (FP.dadd (0 : UInt64) x_r0_0)), (.int 0), (.ref bn2)])) rfl rfl (hb hby own_d1_33)
  have Vwo11 : Arv Z ho11 bn2 kn2 .double (4 : Int32) [(.double (FP.dadd (0 : UInt64) x_r0_0)), (.double 0), (.double 0), (.double 0)] (.double 0) := Arv.set Aro6 qo6 So6 No6 Ho6 Go6 rfl Wo11 0 rfl (Nat.le_of_ble_eq_true rfl)
  have sz12 : h0.size ≤ ho11.size := Nat.le_trans sz3 (Nat.le_of_eq Wo11.size.symm)
  have Nfo11 := Fr.snoc Xo11 N0 g_bn2
  have ne13 : bn2 ≠ r0 := (Ne.symm (Nat.ne_of_lt (Nat.lt_of_lt_of_le V_r0.lt (Nat.le_of_eq gn2.symm))))
  have F14 := (F4.other Wo11 (Ne.symm ne13))
  obtain ⟨clo15, Aro15, qo15, So15, No15, Ho15, Go15⟩ := id F14
  obtain ⟨clo16, Aro16, qo16, So16, No16, Ho16, Go16⟩ := id Vwo11
  have hi17 := inb_of (j := (0 : Int32)) So16 ⟨by decide, by decide⟩
  have ha18 : _ = some (Value.double (FP.dadd (0 : UInt64) x_r0_0)) := Ho16.at hi17 rfl
  have hi19 := inb_of (j := (1 : Int32)) So15 ⟨by decide, by decide⟩
  have ha20 : _ = some (Value.double x_r0_1) := Ho15.at hi19 rfl
  obtain ⟨To21, ho21, Xo21, eo21, Wo21, sto21⟩ := stD Xo11 hx hZ eo11 Aro16 (j := (0 : Int32)) hi17 (g := (mkF m 51 #[.val (.ref r0), .val (.ref bn2), .val (.int 1)] [(.double (FP.dadd (FP.dadd (0 : UInt64) x_r0_0) (FP.ddiv x_r0_1 (4611686018427387904 : UInt64)))), (.int 0), (.ref bn2)])) rfl rfl (hb hby own_d1_51)
  have Vwo21 : Arv Z ho21 bn2 kn2 .double (4 : Int32) [(.double (own_vh7_0 x_r0_0 x_r0_1)), (.double 0), (.double 0), (.double 0)] (.double 0) := Arv.set Aro16 qo16 So16 No16 Ho16 Go16 rfl Wo21 0 rfl (Nat.le_of_ble_eq_true rfl)
  have sz22 : h0.size ≤ ho21.size := Nat.le_trans sz12 (Nat.le_of_eq Wo21.size.symm)
  have Nfo21 := Fr.snoc Xo21 Nfo11 g_bn2
  obtain ⟨clo23, Aro23, qo23, So23, No23, Ho23, Go23⟩ := id Vwo21
  have hi24 := inb_of (j := (1 : Int32)) So23 ⟨by decide, by decide⟩
  have ha25 : _ = some (Value.double (0 : UInt64)) := Ho23.at hi24 rfl
  have F26 := (F14.other Wo21 (Ne.symm ne13))
  obtain ⟨clo27, Aro27, qo27, So27, No27, Ho27, Go27⟩ := id F26
  have hi28 := inb_of (j := (1 : Int32)) So27 ⟨by decide, by decide⟩
  have ha29 : _ = some (Value.double x_r0_1) := Ho27.at hi28 rfl
  obtain ⟨To30, ho30, Xo30, eo30, Wo30, sto30⟩ := stD Xo21 hx hZ eo21 Aro23 (j := (1 : Int32)) hi24 (g := (mkF m 68 #[.val (.ref r0), .val (.ref bn2), .val (.int 1)] [(.double (FP.dadd (0 : UInt64) (FP.ddiv x_r0_1 (4611686018427387904 : UInt64)))), (.int 1), (.ref bn2)])) rfl rfl (hb hby own_d1_68)
  have Vwo30 : Arv Z ho30 bn2 kn2 .double (4 : Int32) [(.double (own_vh7_0 x_r0_0 x_r0_1)), (.double (own_vh7_1 x_r0_1)), (.double 0), (.double 0)] (.double 0) := Arv.set Aro23 qo23 So23 No23 Ho23 Go23 rfl Wo30 1 rfl (Nat.le_of_ble_eq_true rfl)
  have sz31 : h0.size ≤ ho30.size := Nat.le_trans sz22 (Nat.le_of_eq Wo30.size.symm)
  have Nfo30 := Fr.snoc Xo30 Nfo21 g_bn2
  have F32 := (F26.other Wo30 (Ne.symm ne13))
  obtain ⟨clo33, Aro33, qo33, So33, No33, Ho33, Go33⟩ := id F32
  obtain ⟨clo34, Aro34, qo34, So34, No34, Ho34, Go34⟩ := id Vwo30
  have hi35 := inb_of (j := (1 : Int32)) So34 ⟨by decide, by decide⟩
  have ha36 : _ = some (Value.double (own_vh7_1 x_r0_1)) := Ho34.at hi35 rfl
  have hi37 := inb_of (j := (2 : Int32)) So33 ⟨by decide, by decide⟩
  have ha38 : _ = some (Value.double x_r0_2) := Ho33.at hi37 rfl
  obtain ⟨To39, ho39, Xo39, eo39, Wo39, sto39⟩ := stD Xo30 hx hZ eo30 Aro34 (j := (1 : Int32)) hi35 (g := (mkF m 33 #[.val (.ref r0), .val (.ref bn2), .val (.int 2)] [(.double (FP.dadd (own_vh7_1 x_r0_1) x_r0_2)), (.int 1), (.ref bn2)])) rfl rfl (hb hby own_d1_33)
  have Vwo39 : Arv Z ho39 bn2 kn2 .double (4 : Int32) [(.double (own_vh7_0 x_r0_0 x_r0_1)), (.double (own_vh7_2 x_r0_1 x_r0_2)), (.double 0), (.double 0)] (.double 0) := Arv.set Aro34 qo34 So34 No34 Ho34 Go34 rfl Wo39 1 rfl (Nat.le_of_ble_eq_true rfl)
  have sz40 : h0.size ≤ ho39.size := Nat.le_trans sz31 (Nat.le_of_eq Wo39.size.symm)
  have Nfo39 := Fr.snoc Xo39 Nfo30 g_bn2
  have F41 := (F32.other Wo39 (Ne.symm ne13))
  obtain ⟨clo42, Aro42, qo42, So42, No42, Ho42, Go42⟩ := id F41
  obtain ⟨clo43, Aro43, qo43, So43, No43, Ho43, Go43⟩ := id Vwo39
  have hi44 := inb_of (j := (1 : Int32)) So43 ⟨by decide, by decide⟩
  have ha45 : _ = some (Value.double (own_vh7_2 x_r0_1 x_r0_2)) := Ho43.at hi44 rfl
  have hi46 := inb_of (j := (3 : Int32)) So42 ⟨by decide, by decide⟩
  have ha47 : _ = some (Value.double x_r0_3) := Ho42.at hi46 rfl
  obtain ⟨To48, ho48, Xo48, eo48, Wo48, sto48⟩ := stD Xo39 hx hZ eo39 Aro43 (j := (1 : Int32)) hi44 (g := (mkF m 51 #[.val (.ref r0), .val (.ref bn2), .val (.int 3)] [(.double (FP.dadd (own_vh7_2 x_r0_1 x_r0_2) (FP.ddiv x_r0_3 (4611686018427387904 : UInt64)))), (.int 1), (.ref bn2)])) rfl rfl (hb hby own_d1_51)
  have Vwo48 : Arv Z ho48 bn2 kn2 .double (4 : Int32) [(.double (own_vh7_0 x_r0_0 x_r0_1)), (.double (own_vh7_3 x_r0_1 x_r0_2 x_r0_3)), (.double 0), (.double 0)] (.double 0) := Arv.set Aro43 qo43 So43 No43 Ho43 Go43 rfl Wo48 1 rfl (Nat.le_of_ble_eq_true rfl)
  have sz49 : h0.size ≤ ho48.size := Nat.le_trans sz40 (Nat.le_of_eq Wo48.size.symm)
  have Nfo48 := Fr.snoc Xo48 Nfo39 g_bn2
  obtain ⟨clo50, Aro50, qo50, So50, No50, Ho50, Go50⟩ := id Vwo48
  have hi51 := inb_of (j := (2 : Int32)) So50 ⟨by decide, by decide⟩
  have ha52 : _ = some (Value.double (0 : UInt64)) := Ho50.at hi51 rfl
  have F53 := (F41.other Wo48 (Ne.symm ne13))
  obtain ⟨clo54, Aro54, qo54, So54, No54, Ho54, Go54⟩ := id F53
  have hi55 := inb_of (j := (3 : Int32)) So54 ⟨by decide, by decide⟩
  have ha56 : _ = some (Value.double x_r0_3) := Ho54.at hi55 rfl
  obtain ⟨To57, ho57, Xo57, eo57, Wo57, sto57⟩ := stD Xo48 hx hZ eo48 Aro50 (j := (2 : Int32)) hi51 (g := (mkF m 68 #[.val (.ref r0), .val (.ref bn2), .val (.int 3)] [(.double (FP.dadd (0 : UInt64) (FP.ddiv x_r0_3 (4611686018427387904 : UInt64)))), (.int 2), (.ref bn2)])) rfl rfl (hb hby own_d1_68)
  have Vwo57 : Arv Z ho57 bn2 kn2 .double (4 : Int32) [(.double (own_vh7_0 x_r0_0 x_r0_1)), (.double (own_vh7_3 x_r0_1 x_r0_2 x_r0_3)), (.double (own_vh7_4 x_r0_3)), (.double 0)] (.double 0) := Arv.set Aro50 qo50 So50 No50 Ho50 Go50 rfl Wo57 2 rfl (Nat.le_of_ble_eq_true rfl)
  have sz58 : h0.size ≤ ho57.size := Nat.le_trans sz49 (Nat.le_of_eq Wo57.size.symm)
  have Nfo57 := Fr.snoc Xo57 Nfo48 g_bn2
  have F59 := (F53.other Wo57 (Ne.symm ne13))
  obtain ⟨clo60, Aro60, qo60, So60, No60, Ho60, Go60⟩ := id F59
  obtain ⟨clo61, Aro61, qo61, So61, No61, Ho61, Go61⟩ := id Vwo57
  have hi62 := inb_of (j := (2 : Int32)) So61 ⟨by decide, by decide⟩
  have ha63 : _ = some (Value.double (own_vh7_4 x_r0_3)) := Ho61.at hi62 rfl
  have hi64 := inb_of (j := (4 : Int32)) So60 ⟨by decide, by decide⟩
  have ha65 : _ = some (Value.double x_r0_4) := Ho60.at hi64 rfl
  obtain ⟨To66, ho66, Xo66, eo66, Wo66, sto66⟩ := stD Xo57 hx hZ eo57 Aro61 (j := (2 : Int32)) hi62 (g := (mkF m 33 #[.val (.ref r0), .val (.ref bn2), .val (.int 4)] [(.double (FP.dadd (own_vh7_4 x_r0_3) x_r0_4)), (.int 2), (.ref bn2)])) rfl rfl (hb hby own_d1_33)
  have Vwo66 : Arv Z ho66 bn2 kn2 .double (4 : Int32) [(.double (own_vh7_0 x_r0_0 x_r0_1)), (.double (own_vh7_3 x_r0_1 x_r0_2 x_r0_3)), (.double (own_vh7_5 x_r0_3 x_r0_4)), (.double 0)] (.double 0) := Arv.set Aro61 qo61 So61 No61 Ho61 Go61 rfl Wo66 2 rfl (Nat.le_of_ble_eq_true rfl)
  have sz67 : h0.size ≤ ho66.size := Nat.le_trans sz58 (Nat.le_of_eq Wo66.size.symm)
  have Nfo66 := Fr.snoc Xo66 Nfo57 g_bn2
  have F68 := (F59.other Wo66 (Ne.symm ne13))
  obtain ⟨clo69, Aro69, qo69, So69, No69, Ho69, Go69⟩ := id F68
  obtain ⟨clo70, Aro70, qo70, So70, No70, Ho70, Go70⟩ := id Vwo66
  have hi71 := inb_of (j := (2 : Int32)) So70 ⟨by decide, by decide⟩
  have ha72 : _ = some (Value.double (own_vh7_5 x_r0_3 x_r0_4)) := Ho70.at hi71 rfl
  have hi73 := inb_of (j := (5 : Int32)) So69 ⟨by decide, by decide⟩
  have ha74 : _ = some (Value.double x_r0_5) := Ho69.at hi73 rfl
  obtain ⟨To75, ho75, Xo75, eo75, Wo75, sto75⟩ := stD Xo66 hx hZ eo66 Aro70 (j := (2 : Int32)) hi71 (g := (mkF m 51 #[.val (.ref r0), .val (.ref bn2), .val (.int 5)] [(.double (FP.dadd (own_vh7_5 x_r0_3 x_r0_4) (FP.ddiv x_r0_5 (4611686018427387904 : UInt64)))), (.int 2), (.ref bn2)])) rfl rfl (hb hby own_d1_51)
  have Vwo75 : Arv Z ho75 bn2 kn2 .double (4 : Int32) [(.double (own_vh7_0 x_r0_0 x_r0_1)), (.double (own_vh7_3 x_r0_1 x_r0_2 x_r0_3)), (.double (own_vh7_6 x_r0_3 x_r0_4 x_r0_5)), (.double 0)] (.double 0) := Arv.set Aro70 qo70 So70 No70 Ho70 Go70 rfl Wo75 2 rfl (Nat.le_of_ble_eq_true rfl)
  have sz76 : h0.size ≤ ho75.size := Nat.le_trans sz67 (Nat.le_of_eq Wo75.size.symm)
  have Nfo75 := Fr.snoc Xo75 Nfo66 g_bn2
  obtain ⟨clo77, Aro77, qo77, So77, No77, Ho77, Go77⟩ := id Vwo75
  have hi78 := inb_of (j := (3 : Int32)) So77 ⟨by decide, by decide⟩
  have ha79 : _ = some (Value.double (0 : UInt64)) := Ho77.at hi78 rfl
  have F80 := (F68.other Wo75 (Ne.symm ne13))
  obtain ⟨clo81, Aro81, qo81, So81, No81, Ho81, Go81⟩ := id F80
  have hi82 := inb_of (j := (5 : Int32)) So81 ⟨by decide, by decide⟩
  have ha83 : _ = some (Value.double x_r0_5) := Ho81.at hi82 rfl
  obtain ⟨To84, ho84, Xo84, eo84, Wo84, sto84⟩ := stD Xo75 hx hZ eo75 Aro77 (j := (3 : Int32)) hi78 (g := (mkF m 68 #[.val (.ref r0), .val (.ref bn2), .val (.int 5)] [(.double (FP.dadd (0 : UInt64) (FP.ddiv x_r0_5 (4611686018427387904 : UInt64)))), (.int 3), (.ref bn2)])) rfl rfl (hb hby own_d1_68)
  have Vwo84 : Arv Z ho84 bn2 kn2 .double (4 : Int32) [(.double (own_vh7_0 x_r0_0 x_r0_1)), (.double (own_vh7_3 x_r0_1 x_r0_2 x_r0_3)), (.double (own_vh7_6 x_r0_3 x_r0_4 x_r0_5)), (.double (own_vh7_7 x_r0_5))] (.double 0) := Arv.set Aro77 qo77 So77 No77 Ho77 Go77 rfl Wo84 3 rfl (Nat.le_of_ble_eq_true rfl)
  have sz85 : h0.size ≤ ho84.size := Nat.le_trans sz76 (Nat.le_of_eq Wo84.size.symm)
  have Nfo84 := Fr.snoc Xo84 Nfo75 g_bn2
  have F86 := (F80.other Wo84 (Ne.symm ne13))
  obtain ⟨clo87, Aro87, qo87, So87, No87, Ho87, Go87⟩ := id F86
  obtain ⟨clo88, Aro88, qo88, So88, No88, Ho88, Go88⟩ := id Vwo84
  have hi89 := inb_of (j := (3 : Int32)) So88 ⟨by decide, by decide⟩
  have ha90 : _ = some (Value.double (own_vh7_7 x_r0_5)) := Ho88.at hi89 rfl
  have hi91 := inb_of (j := (6 : Int32)) So87 ⟨by decide, by decide⟩
  have ha92 : _ = some (Value.double x_r0_6) := Ho87.at hi91 rfl
  obtain ⟨To93, ho93, Xo93, eo93, Wo93, sto93⟩ := stD Xo84 hx hZ eo84 Aro88 (j := (3 : Int32)) hi89 (g := (mkF m 33 #[.val (.ref r0), .val (.ref bn2), .val (.int 6)] [(.double (FP.dadd (own_vh7_7 x_r0_5) x_r0_6)), (.int 3), (.ref bn2)])) rfl rfl (hb hby own_d1_33)
  have Vwo93 : Arv Z ho93 bn2 kn2 .double (4 : Int32) [(.double (own_vh7_0 x_r0_0 x_r0_1)), (.double (own_vh7_3 x_r0_1 x_r0_2 x_r0_3)), (.double (own_vh7_6 x_r0_3 x_r0_4 x_r0_5)), (.double (own_vh7_8 x_r0_5 x_r0_6))] (.double 0) := Arv.set Aro88 qo88 So88 No88 Ho88 Go88 rfl Wo93 3 rfl (Nat.le_of_ble_eq_true rfl)
  have sz94 : h0.size ≤ ho93.size := Nat.le_trans sz85 (Nat.le_of_eq Wo93.size.symm)
  have Nfo93 := Fr.snoc Xo93 Nfo84 g_bn2
  have F95 := (F86.other Wo93 (Ne.symm ne13))
  obtain ⟨clo96, Aro96, qo96, So96, No96, Ho96, Go96⟩ := id F95
  obtain ⟨fs, hr, hrun, hended, hW, hsame⟩ := Xo93.leave (v := some (.ref bn2)) (fun h => by rw [Bd.returns] at h; cases h)
  refine ⟨_, _, pre0 _ (?_), hrun, hended, _, _, rfl, ?_, ⟨_, rfl⟩, hW, hsame.mono (by decide) (by decide)⟩
  · show Steps p.tables e below (s₁.setTop (mkF m 0 #[.val (.ref r0), .unset, .unset] [])) _
    refine XS.aloadN X0.here hx rfl (hb hby own_d1_0) rfl rfl ?_
    refine X0.arraylength hx (by rw [e0]; exact Aro1.1) (State.isArrayOf_alike hZ.alike Aro1.2.1) (g := (mkF m 1 #[.val (.ref r0), .unset, .unset] [(.ref r0)])) rfl rfl (hb hby own_d1_1) _ ?_
    rw [len_of So1 No1]
    show Steps p.tables e below (s₁.setTop (mkF m 2 #[.val (.ref r0), .unset, .unset] [(.int 7)])) _
    refine XS.iconst X0.here hx rfl (hb hby own_d1_2) ?_
    refine XS.idiv X0.here hx rfl (hb hby own_d1_3) rfl (by decide) ?_
    refine XS.iconst X0.here hx rfl (hb hby own_d1_4) ?_
    refine XS.iadd X0.here hx rfl (hb hby own_d1_5) rfl ?_
    show Steps p.tables e below (s₁.setTop (mkF m 6 #[.val (.ref r0), .unset, .unset] [(.int 4)])) _
    refine stn2 _ ?_
    refine XS.astoreN Xn2.here hx rfl (hb hby own_d1_8) rfl rfl (l' := #[.val (.ref r0), .val (.ref bn2), .unset]) rfl ?_
    refine XS.iconst Xn2.here hx rfl (hb hby own_d1_9) ?_
    refine XS.istoreN Xn2.here hx rfl (hb hby own_d1_10) rfl (l' := #[.val (.ref r0), .val (.ref bn2), .val (.int 0)]) rfl ?_
    refine XS.iloadN Xn2.here hx rfl (hb hby own_d1_11) rfl ?_
    refine XS.aloadN Xn2.here hx rfl (hb hby own_d1_12) rfl rfl ?_
    refine Xn2.arraylength hx (by rw [en2]; exact Aro5.1) (State.isArrayOf_alike hZ.alike Aro5.2.1) (g := (mkF m 13 #[.val (.ref r0), .val (.ref bn2), .val (.int 0)] [(.ref r0), (.int 0)])) rfl rfl (hb hby own_d1_13) _ ?_
    rw [len_of So5 No5]
    show Steps p.tables e below (Tn2.setTop (mkF m 14 #[.val (.ref r0), .val (.ref bn2), .val (.int 0)] [(.int 7), (.int 0)])) _
    refine XS.icmpNo Xn2.here hx rfl (hb hby own_d1_14) rfl (XT.ii_ge_f (by decide : (0 : Int32) < (7 : Int32))) ?_
    refine XS.iloadN Xn2.here hx rfl (hb hby own_d1_17) rfl ?_
    refine XS.iconst Xn2.here hx rfl (hb hby own_d1_18) ?_
    refine XS.irem Xn2.here hx rfl (hb hby own_d1_19) rfl (by decide) ?_
    show Steps p.tables e below (Tn2.setTop (mkF m 20 #[.val (.ref r0), .val (.ref bn2), .val (.int 0)] [(.int 0)])) _
    refine XS.ifNo Xn2.here hx rfl (hb hby own_d1_20) rfl (XT.i0_ne_f (by decide : (0 : Int32) = (0 : Int32))) ?_
    refine XS.aloadN Xn2.here hx rfl (hb hby own_d1_23) rfl rfl ?_
    refine XS.iloadN Xn2.here hx rfl (hb hby own_d1_24) rfl ?_
    refine XS.iconst Xn2.here hx rfl (hb hby own_d1_25) ?_
    refine XS.idiv Xn2.here hx rfl (hb hby own_d1_26) rfl (by decide) ?_
    show Steps p.tables e below (Tn2.setTop (mkF m 27 #[.val (.ref r0), .val (.ref bn2), .val (.int 0)] [(.int 0), (.ref bn2)])) _
    refine XT.dup2 Xn2.here hx rfl (hb hby own_d1_27) rfl rfl rfl ?_
    refine Xn2.daload hx (j := (0 : Int32)) (v := (.double 0)) (by rw [en2]; exact Aro6.1) (State.isArrayOf_alike hZ.alike Aro6.2.1) Aro6.2.2 hi7 ha8 (g := (mkF m 28 #[.val (.ref r0), .val (.ref bn2), .val (.int 0)] [(.int 0), (.ref bn2), (.int 0), (.ref bn2)])) rfl rfl (hb hby own_d1_28) _ ?_
    refine XS.aloadN Xn2.here hx rfl (hb hby own_d1_29) rfl rfl ?_
    refine XS.iloadN Xn2.here hx rfl (hb hby own_d1_30) rfl ?_
    refine Xn2.daload hx (j := (0 : Int32)) (v := (.double x_r0_0)) (by rw [en2]; exact Aro5.1) (State.isArrayOf_alike hZ.alike Aro5.2.1) Aro5.2.2 hi9 ha10 (g := (mkF m 31 #[.val (.ref r0), .val (.ref bn2), .val (.int 0)] [(.int 0), (.ref r0), (.double 0), (.int 0), (.ref bn2)])) rfl rfl (hb hby own_d1_31) _ ?_
    show Steps p.tables e below (Tn2.setTop (mkF m 32 #[.val (.ref r0), .val (.ref bn2), .val (.int 0)] [(.double x_r0_0), (.double 0), (.int 0), (.ref bn2)])) _
    refine XS.daddS Xn2.here hx rfl (hb hby own_d1_32) rfl nn32 rfl ?_
    refine sto11 _ ?_
    refine XS.goto Xo11.here hx rfl (pc0 := 34) (pc' := 69) rfl (hb hby own_d1_34) (by decide) (by decide) ?_
    refine XS.iinc Xo11.here hx rfl (hb hby own_d1_69) rfl (l' := #[.val (.ref r0), .val (.ref bn2), .val (.int 1)]) rfl ?_
    refine XS.goto Xo11.here hx rfl (pc0 := 72) (pc' := 11) rfl (hb hby own_d1_72) (by decide) (by decide) ?_
    refine XS.iloadN Xo11.here hx rfl (hb hby own_d1_11) rfl ?_
    refine XS.aloadN Xo11.here hx rfl (hb hby own_d1_12) rfl rfl ?_
    refine Xo11.arraylength hx (by rw [eo11]; exact Aro15.1) (State.isArrayOf_alike hZ.alike Aro15.2.1) (g := (mkF m 13 #[.val (.ref r0), .val (.ref bn2), .val (.int 1)] [(.ref r0), (.int 1)])) rfl rfl (hb hby own_d1_13) _ ?_
    rw [len_of So15 No15]
    show Steps p.tables e below (To11.setTop (mkF m 14 #[.val (.ref r0), .val (.ref bn2), .val (.int 1)] [(.int 7), (.int 1)])) _
    refine XS.icmpNo Xo11.here hx rfl (hb hby own_d1_14) rfl (XT.ii_ge_f (by decide : (1 : Int32) < (7 : Int32))) ?_
    refine XS.iloadN Xo11.here hx rfl (hb hby own_d1_17) rfl ?_
    refine XS.iconst Xo11.here hx rfl (hb hby own_d1_18) ?_
    refine XS.irem Xo11.here hx rfl (hb hby own_d1_19) rfl (by decide) ?_
    show Steps p.tables e below (To11.setTop (mkF m 20 #[.val (.ref r0), .val (.ref bn2), .val (.int 1)] [(.int 1)])) _
    refine XS.ifYes Xo11.here hx rfl (pc0 := 20) (pc' := 37) rfl (hb hby own_d1_20) rfl (XT.i0_ne_t (by decide : ¬ ((1 : Int32) = (0 : Int32)))) (by decide) (by decide) ?_
    refine XS.aloadN Xo11.here hx rfl (hb hby own_d1_37) rfl rfl ?_
    refine XS.iloadN Xo11.here hx rfl (hb hby own_d1_38) rfl ?_
    refine XS.iconst Xo11.here hx rfl (hb hby own_d1_39) ?_
    refine XS.idiv Xo11.here hx rfl (hb hby own_d1_40) rfl (by decide) ?_
    show Steps p.tables e below (To11.setTop (mkF m 41 #[.val (.ref r0), .val (.ref bn2), .val (.int 1)] [(.int 0), (.ref bn2)])) _
    refine XT.dup2 Xo11.here hx rfl (hb hby own_d1_41) rfl rfl rfl ?_
    refine Xo11.daload hx (j := (0 : Int32)) (v := (.double (FP.dadd (0 : UInt64) x_r0_0))) (by rw [eo11]; exact Aro16.1) (State.isArrayOf_alike hZ.alike Aro16.2.1) Aro16.2.2 hi17 ha18 (g := (mkF m 42 #[.val (.ref r0), .val (.ref bn2), .val (.int 1)] [(.int 0), (.ref bn2), (.int 0), (.ref bn2)])) rfl rfl (hb hby own_d1_42) _ ?_
    refine XS.aloadN Xo11.here hx rfl (hb hby own_d1_43) rfl rfl ?_
    refine XS.iloadN Xo11.here hx rfl (hb hby own_d1_44) rfl ?_
    refine Xo11.daload hx (j := (1 : Int32)) (v := (.double x_r0_1)) (by rw [eo11]; exact Aro15.1) (State.isArrayOf_alike hZ.alike Aro15.2.1) Aro15.2.2 hi19 ha20 (g := (mkF m 45 #[.val (.ref r0), .val (.ref bn2), .val (.int 1)] [(.int 1), (.ref r0), (.double (FP.dadd (0 : UInt64) x_r0_0)), (.int 0), (.ref bn2)])) rfl rfl (hb hby own_d1_45) _ ?_
    show Steps p.tables e below (To11.setTop (mkF m 46 #[.val (.ref r0), .val (.ref bn2), .val (.int 1)] [(.double x_r0_1), (.double (FP.dadd (0 : UInt64) x_r0_0)), (.int 0), (.ref bn2)])) _
    refine Xo11.ldc2DoubleC hx hown (mvT hZ (own_W hw 14 rfl)) (g := (mkF m 46 #[.val (.ref r0), .val (.ref bn2), .val (.int 1)] [(.double x_r0_1), (.double (FP.dadd (0 : UInt64) x_r0_0)), (.int 0), (.ref bn2)])) rfl (hb hby own_d1_46) _ ?_
    refine XS.ddivS Xo11.here hx rfl (hb hby own_d1_49) rfl nn49 rfl ?_
    refine XS.daddS Xo11.here hx rfl (hb hby own_d1_50) rfl nn50 rfl ?_
    refine sto21 _ ?_
    show Steps p.tables e below (To21.setTop (mkF m 52 #[.val (.ref r0), .val (.ref bn2), .val (.int 1)] [])) _
    refine XS.aloadN Xo21.here hx rfl (hb hby own_d1_52) rfl rfl ?_
    refine XS.iloadN Xo21.here hx rfl (hb hby own_d1_53) rfl ?_
    refine XS.iconst Xo21.here hx rfl (hb hby own_d1_54) ?_
    refine XS.idiv Xo21.here hx rfl (hb hby own_d1_55) rfl (by decide) ?_
    show Steps p.tables e below (To21.setTop (mkF m 56 #[.val (.ref r0), .val (.ref bn2), .val (.int 1)] [(.int 0), (.ref bn2)])) _
    refine XS.iconst Xo21.here hx rfl (hb hby own_d1_56) ?_
    refine XS.iadd Xo21.here hx rfl (hb hby own_d1_57) rfl ?_
    show Steps p.tables e below (To21.setTop (mkF m 58 #[.val (.ref r0), .val (.ref bn2), .val (.int 1)] [(.int 1), (.ref bn2)])) _
    refine XT.dup2 Xo21.here hx rfl (hb hby own_d1_58) rfl rfl rfl ?_
    refine Xo21.daload hx (j := (1 : Int32)) (v := (.double 0)) (by rw [eo21]; exact Aro23.1) (State.isArrayOf_alike hZ.alike Aro23.2.1) Aro23.2.2 hi24 ha25 (g := (mkF m 59 #[.val (.ref r0), .val (.ref bn2), .val (.int 1)] [(.int 1), (.ref bn2), (.int 1), (.ref bn2)])) rfl rfl (hb hby own_d1_59) _ ?_
    refine XS.aloadN Xo21.here hx rfl (hb hby own_d1_60) rfl rfl ?_
    refine XS.iloadN Xo21.here hx rfl (hb hby own_d1_61) rfl ?_
    refine Xo21.daload hx (j := (1 : Int32)) (v := (.double x_r0_1)) (by rw [eo21]; exact Aro27.1) (State.isArrayOf_alike hZ.alike Aro27.2.1) Aro27.2.2 hi28 ha29 (g := (mkF m 62 #[.val (.ref r0), .val (.ref bn2), .val (.int 1)] [(.int 1), (.ref r0), (.double 0), (.int 1), (.ref bn2)])) rfl rfl (hb hby own_d1_62) _ ?_
    show Steps p.tables e below (To21.setTop (mkF m 63 #[.val (.ref r0), .val (.ref bn2), .val (.int 1)] [(.double x_r0_1), (.double 0), (.int 1), (.ref bn2)])) _
    refine Xo21.ldc2DoubleC hx hown (mvT hZ (own_W hw 14 rfl)) (g := (mkF m 63 #[.val (.ref r0), .val (.ref bn2), .val (.int 1)] [(.double x_r0_1), (.double 0), (.int 1), (.ref bn2)])) rfl (hb hby own_d1_63) _ ?_
    refine XS.ddivS Xo21.here hx rfl (hb hby own_d1_66) rfl nn49 rfl ?_
    refine XS.daddS Xo21.here hx rfl (hb hby own_d1_67) rfl nn67 rfl ?_
    refine sto30 _ ?_
    show Steps p.tables e below (To30.setTop (mkF m 69 #[.val (.ref r0), .val (.ref bn2), .val (.int 1)] [])) _
    refine XS.iinc Xo30.here hx rfl (hb hby own_d1_69) rfl (l' := #[.val (.ref r0), .val (.ref bn2), .val (.int 2)]) rfl ?_
    refine XS.goto Xo30.here hx rfl (pc0 := 72) (pc' := 11) rfl (hb hby own_d1_72) (by decide) (by decide) ?_
    refine XS.iloadN Xo30.here hx rfl (hb hby own_d1_11) rfl ?_
    refine XS.aloadN Xo30.here hx rfl (hb hby own_d1_12) rfl rfl ?_
    refine Xo30.arraylength hx (by rw [eo30]; exact Aro33.1) (State.isArrayOf_alike hZ.alike Aro33.2.1) (g := (mkF m 13 #[.val (.ref r0), .val (.ref bn2), .val (.int 2)] [(.ref r0), (.int 2)])) rfl rfl (hb hby own_d1_13) _ ?_
    rw [len_of So33 No33]
    show Steps p.tables e below (To30.setTop (mkF m 14 #[.val (.ref r0), .val (.ref bn2), .val (.int 2)] [(.int 7), (.int 2)])) _
    refine XS.icmpNo Xo30.here hx rfl (hb hby own_d1_14) rfl (XT.ii_ge_f (by decide : (2 : Int32) < (7 : Int32))) ?_
    refine XS.iloadN Xo30.here hx rfl (hb hby own_d1_17) rfl ?_
    refine XS.iconst Xo30.here hx rfl (hb hby own_d1_18) ?_
    refine XS.irem Xo30.here hx rfl (hb hby own_d1_19) rfl (by decide) ?_
    show Steps p.tables e below (To30.setTop (mkF m 20 #[.val (.ref r0), .val (.ref bn2), .val (.int 2)] [(.int 0)])) _
    refine XS.ifNo Xo30.here hx rfl (hb hby own_d1_20) rfl (XT.i0_ne_f (by decide : (0 : Int32) = (0 : Int32))) ?_
    refine XS.aloadN Xo30.here hx rfl (hb hby own_d1_23) rfl rfl ?_
    refine XS.iloadN Xo30.here hx rfl (hb hby own_d1_24) rfl ?_
    refine XS.iconst Xo30.here hx rfl (hb hby own_d1_25) ?_
    refine XS.idiv Xo30.here hx rfl (hb hby own_d1_26) rfl (by decide) ?_
    show Steps p.tables e below (To30.setTop (mkF m 27 #[.val (.ref r0), .val (.ref bn2), .val (.int 2)] [(.int 1), (.ref bn2)])) _
    refine XT.dup2 Xo30.here hx rfl (hb hby own_d1_27) rfl rfl rfl ?_
    refine Xo30.daload hx (j := (1 : Int32)) (v := (.double (own_vh7_1 x_r0_1))) (by rw [eo30]; exact Aro34.1) (State.isArrayOf_alike hZ.alike Aro34.2.1) Aro34.2.2 hi35 ha36 (g := (mkF m 28 #[.val (.ref r0), .val (.ref bn2), .val (.int 2)] [(.int 1), (.ref bn2), (.int 1), (.ref bn2)])) rfl rfl (hb hby own_d1_28) _ ?_
    refine XS.aloadN Xo30.here hx rfl (hb hby own_d1_29) rfl rfl ?_
    refine XS.iloadN Xo30.here hx rfl (hb hby own_d1_30) rfl ?_
    refine Xo30.daload hx (j := (2 : Int32)) (v := (.double x_r0_2)) (by rw [eo30]; exact Aro33.1) (State.isArrayOf_alike hZ.alike Aro33.2.1) Aro33.2.2 hi37 ha38 (g := (mkF m 31 #[.val (.ref r0), .val (.ref bn2), .val (.int 2)] [(.int 2), (.ref r0), (.double (own_vh7_1 x_r0_1)), (.int 1), (.ref bn2)])) rfl rfl (hb hby own_d1_31) _ ?_
    show Steps p.tables e below (To30.setTop (mkF m 32 #[.val (.ref r0), .val (.ref bn2), .val (.int 2)] [(.double x_r0_2), (.double (own_vh7_1 x_r0_1)), (.int 1), (.ref bn2)])) _
    refine XS.daddS Xo30.here hx rfl (hb hby own_d1_32) rfl nn32_2 rfl ?_
    refine sto39 _ ?_
    refine XS.goto Xo39.here hx rfl (pc0 := 34) (pc' := 69) rfl (hb hby own_d1_34) (by decide) (by decide) ?_
    refine XS.iinc Xo39.here hx rfl (hb hby own_d1_69) rfl (l' := #[.val (.ref r0), .val (.ref bn2), .val (.int 3)]) rfl ?_
    refine XS.goto Xo39.here hx rfl (pc0 := 72) (pc' := 11) rfl (hb hby own_d1_72) (by decide) (by decide) ?_
    refine XS.iloadN Xo39.here hx rfl (hb hby own_d1_11) rfl ?_
    refine XS.aloadN Xo39.here hx rfl (hb hby own_d1_12) rfl rfl ?_
    refine Xo39.arraylength hx (by rw [eo39]; exact Aro42.1) (State.isArrayOf_alike hZ.alike Aro42.2.1) (g := (mkF m 13 #[.val (.ref r0), .val (.ref bn2), .val (.int 3)] [(.ref r0), (.int 3)])) rfl rfl (hb hby own_d1_13) _ ?_
    rw [len_of So42 No42]
    show Steps p.tables e below (To39.setTop (mkF m 14 #[.val (.ref r0), .val (.ref bn2), .val (.int 3)] [(.int 7), (.int 3)])) _
    refine XS.icmpNo Xo39.here hx rfl (hb hby own_d1_14) rfl (XT.ii_ge_f (by decide : (3 : Int32) < (7 : Int32))) ?_
    refine XS.iloadN Xo39.here hx rfl (hb hby own_d1_17) rfl ?_
    refine XS.iconst Xo39.here hx rfl (hb hby own_d1_18) ?_
    refine XS.irem Xo39.here hx rfl (hb hby own_d1_19) rfl (by decide) ?_
    show Steps p.tables e below (To39.setTop (mkF m 20 #[.val (.ref r0), .val (.ref bn2), .val (.int 3)] [(.int 1)])) _
    refine XS.ifYes Xo39.here hx rfl (pc0 := 20) (pc' := 37) rfl (hb hby own_d1_20) rfl (XT.i0_ne_t (by decide : ¬ ((1 : Int32) = (0 : Int32)))) (by decide) (by decide) ?_
    refine XS.aloadN Xo39.here hx rfl (hb hby own_d1_37) rfl rfl ?_
    refine XS.iloadN Xo39.here hx rfl (hb hby own_d1_38) rfl ?_
    refine XS.iconst Xo39.here hx rfl (hb hby own_d1_39) ?_
    refine XS.idiv Xo39.here hx rfl (hb hby own_d1_40) rfl (by decide) ?_
    show Steps p.tables e below (To39.setTop (mkF m 41 #[.val (.ref r0), .val (.ref bn2), .val (.int 3)] [(.int 1), (.ref bn2)])) _
    refine XT.dup2 Xo39.here hx rfl (hb hby own_d1_41) rfl rfl rfl ?_
    refine Xo39.daload hx (j := (1 : Int32)) (v := (.double (own_vh7_2 x_r0_1 x_r0_2))) (by rw [eo39]; exact Aro43.1) (State.isArrayOf_alike hZ.alike Aro43.2.1) Aro43.2.2 hi44 ha45 (g := (mkF m 42 #[.val (.ref r0), .val (.ref bn2), .val (.int 3)] [(.int 1), (.ref bn2), (.int 1), (.ref bn2)])) rfl rfl (hb hby own_d1_42) _ ?_
    refine XS.aloadN Xo39.here hx rfl (hb hby own_d1_43) rfl rfl ?_
    refine XS.iloadN Xo39.here hx rfl (hb hby own_d1_44) rfl ?_
    refine Xo39.daload hx (j := (3 : Int32)) (v := (.double x_r0_3)) (by rw [eo39]; exact Aro42.1) (State.isArrayOf_alike hZ.alike Aro42.2.1) Aro42.2.2 hi46 ha47 (g := (mkF m 45 #[.val (.ref r0), .val (.ref bn2), .val (.int 3)] [(.int 3), (.ref r0), (.double (own_vh7_2 x_r0_1 x_r0_2)), (.int 1), (.ref bn2)])) rfl rfl (hb hby own_d1_45) _ ?_
    show Steps p.tables e below (To39.setTop (mkF m 46 #[.val (.ref r0), .val (.ref bn2), .val (.int 3)] [(.double x_r0_3), (.double (own_vh7_2 x_r0_1 x_r0_2)), (.int 1), (.ref bn2)])) _
    refine Xo39.ldc2DoubleC hx hown (mvT hZ (own_W hw 14 rfl)) (g := (mkF m 46 #[.val (.ref r0), .val (.ref bn2), .val (.int 3)] [(.double x_r0_3), (.double (own_vh7_2 x_r0_1 x_r0_2)), (.int 1), (.ref bn2)])) rfl (hb hby own_d1_46) _ ?_
    refine XS.ddivS Xo39.here hx rfl (hb hby own_d1_49) rfl nn49_2 rfl ?_
    refine XS.daddS Xo39.here hx rfl (hb hby own_d1_50) rfl nn50_2 rfl ?_
    refine sto48 _ ?_
    show Steps p.tables e below (To48.setTop (mkF m 52 #[.val (.ref r0), .val (.ref bn2), .val (.int 3)] [])) _
    refine XS.aloadN Xo48.here hx rfl (hb hby own_d1_52) rfl rfl ?_
    refine XS.iloadN Xo48.here hx rfl (hb hby own_d1_53) rfl ?_
    refine XS.iconst Xo48.here hx rfl (hb hby own_d1_54) ?_
    refine XS.idiv Xo48.here hx rfl (hb hby own_d1_55) rfl (by decide) ?_
    show Steps p.tables e below (To48.setTop (mkF m 56 #[.val (.ref r0), .val (.ref bn2), .val (.int 3)] [(.int 1), (.ref bn2)])) _
    refine XS.iconst Xo48.here hx rfl (hb hby own_d1_56) ?_
    refine XS.iadd Xo48.here hx rfl (hb hby own_d1_57) rfl ?_
    show Steps p.tables e below (To48.setTop (mkF m 58 #[.val (.ref r0), .val (.ref bn2), .val (.int 3)] [(.int 2), (.ref bn2)])) _
    refine XT.dup2 Xo48.here hx rfl (hb hby own_d1_58) rfl rfl rfl ?_
    refine Xo48.daload hx (j := (2 : Int32)) (v := (.double 0)) (by rw [eo48]; exact Aro50.1) (State.isArrayOf_alike hZ.alike Aro50.2.1) Aro50.2.2 hi51 ha52 (g := (mkF m 59 #[.val (.ref r0), .val (.ref bn2), .val (.int 3)] [(.int 2), (.ref bn2), (.int 2), (.ref bn2)])) rfl rfl (hb hby own_d1_59) _ ?_
    refine XS.aloadN Xo48.here hx rfl (hb hby own_d1_60) rfl rfl ?_
    refine XS.iloadN Xo48.here hx rfl (hb hby own_d1_61) rfl ?_
    refine Xo48.daload hx (j := (3 : Int32)) (v := (.double x_r0_3)) (by rw [eo48]; exact Aro54.1) (State.isArrayOf_alike hZ.alike Aro54.2.1) Aro54.2.2 hi55 ha56 (g := (mkF m 62 #[.val (.ref r0), .val (.ref bn2), .val (.int 3)] [(.int 3), (.ref r0), (.double 0), (.int 2), (.ref bn2)])) rfl rfl (hb hby own_d1_62) _ ?_
    show Steps p.tables e below (To48.setTop (mkF m 63 #[.val (.ref r0), .val (.ref bn2), .val (.int 3)] [(.double x_r0_3), (.double 0), (.int 2), (.ref bn2)])) _
    refine Xo48.ldc2DoubleC hx hown (mvT hZ (own_W hw 14 rfl)) (g := (mkF m 63 #[.val (.ref r0), .val (.ref bn2), .val (.int 3)] [(.double x_r0_3), (.double 0), (.int 2), (.ref bn2)])) rfl (hb hby own_d1_63) _ ?_
    refine XS.ddivS Xo48.here hx rfl (hb hby own_d1_66) rfl nn49_2 rfl ?_
    refine XS.daddS Xo48.here hx rfl (hb hby own_d1_67) rfl nn67_2 rfl ?_
    refine sto57 _ ?_
    show Steps p.tables e below (To57.setTop (mkF m 69 #[.val (.ref r0), .val (.ref bn2), .val (.int 3)] [])) _
    refine XS.iinc Xo57.here hx rfl (hb hby own_d1_69) rfl (l' := #[.val (.ref r0), .val (.ref bn2), .val (.int 4)]) rfl ?_
    refine XS.goto Xo57.here hx rfl (pc0 := 72) (pc' := 11) rfl (hb hby own_d1_72) (by decide) (by decide) ?_
    refine XS.iloadN Xo57.here hx rfl (hb hby own_d1_11) rfl ?_
    refine XS.aloadN Xo57.here hx rfl (hb hby own_d1_12) rfl rfl ?_
    refine Xo57.arraylength hx (by rw [eo57]; exact Aro60.1) (State.isArrayOf_alike hZ.alike Aro60.2.1) (g := (mkF m 13 #[.val (.ref r0), .val (.ref bn2), .val (.int 4)] [(.ref r0), (.int 4)])) rfl rfl (hb hby own_d1_13) _ ?_
    rw [len_of So60 No60]
    show Steps p.tables e below (To57.setTop (mkF m 14 #[.val (.ref r0), .val (.ref bn2), .val (.int 4)] [(.int 7), (.int 4)])) _
    refine XS.icmpNo Xo57.here hx rfl (hb hby own_d1_14) rfl (XT.ii_ge_f (by decide : (4 : Int32) < (7 : Int32))) ?_
    refine XS.iloadN Xo57.here hx rfl (hb hby own_d1_17) rfl ?_
    refine XS.iconst Xo57.here hx rfl (hb hby own_d1_18) ?_
    refine XS.irem Xo57.here hx rfl (hb hby own_d1_19) rfl (by decide) ?_
    show Steps p.tables e below (To57.setTop (mkF m 20 #[.val (.ref r0), .val (.ref bn2), .val (.int 4)] [(.int 0)])) _
    refine XS.ifNo Xo57.here hx rfl (hb hby own_d1_20) rfl (XT.i0_ne_f (by decide : (0 : Int32) = (0 : Int32))) ?_
    refine XS.aloadN Xo57.here hx rfl (hb hby own_d1_23) rfl rfl ?_
    refine XS.iloadN Xo57.here hx rfl (hb hby own_d1_24) rfl ?_
    refine XS.iconst Xo57.here hx rfl (hb hby own_d1_25) ?_
    refine XS.idiv Xo57.here hx rfl (hb hby own_d1_26) rfl (by decide) ?_
    show Steps p.tables e below (To57.setTop (mkF m 27 #[.val (.ref r0), .val (.ref bn2), .val (.int 4)] [(.int 2), (.ref bn2)])) _
    refine XT.dup2 Xo57.here hx rfl (hb hby own_d1_27) rfl rfl rfl ?_
    refine Xo57.daload hx (j := (2 : Int32)) (v := (.double (own_vh7_4 x_r0_3))) (by rw [eo57]; exact Aro61.1) (State.isArrayOf_alike hZ.alike Aro61.2.1) Aro61.2.2 hi62 ha63 (g := (mkF m 28 #[.val (.ref r0), .val (.ref bn2), .val (.int 4)] [(.int 2), (.ref bn2), (.int 2), (.ref bn2)])) rfl rfl (hb hby own_d1_28) _ ?_
    refine XS.aloadN Xo57.here hx rfl (hb hby own_d1_29) rfl rfl ?_
    refine XS.iloadN Xo57.here hx rfl (hb hby own_d1_30) rfl ?_
    refine Xo57.daload hx (j := (4 : Int32)) (v := (.double x_r0_4)) (by rw [eo57]; exact Aro60.1) (State.isArrayOf_alike hZ.alike Aro60.2.1) Aro60.2.2 hi64 ha65 (g := (mkF m 31 #[.val (.ref r0), .val (.ref bn2), .val (.int 4)] [(.int 4), (.ref r0), (.double (own_vh7_4 x_r0_3)), (.int 2), (.ref bn2)])) rfl rfl (hb hby own_d1_31) _ ?_
    show Steps p.tables e below (To57.setTop (mkF m 32 #[.val (.ref r0), .val (.ref bn2), .val (.int 4)] [(.double x_r0_4), (.double (own_vh7_4 x_r0_3)), (.int 2), (.ref bn2)])) _
    refine XS.daddS Xo57.here hx rfl (hb hby own_d1_32) rfl nn32_3 rfl ?_
    refine sto66 _ ?_
    refine XS.goto Xo66.here hx rfl (pc0 := 34) (pc' := 69) rfl (hb hby own_d1_34) (by decide) (by decide) ?_
    refine XS.iinc Xo66.here hx rfl (hb hby own_d1_69) rfl (l' := #[.val (.ref r0), .val (.ref bn2), .val (.int 5)]) rfl ?_
    refine XS.goto Xo66.here hx rfl (pc0 := 72) (pc' := 11) rfl (hb hby own_d1_72) (by decide) (by decide) ?_
    refine XS.iloadN Xo66.here hx rfl (hb hby own_d1_11) rfl ?_
    refine XS.aloadN Xo66.here hx rfl (hb hby own_d1_12) rfl rfl ?_
    refine Xo66.arraylength hx (by rw [eo66]; exact Aro69.1) (State.isArrayOf_alike hZ.alike Aro69.2.1) (g := (mkF m 13 #[.val (.ref r0), .val (.ref bn2), .val (.int 5)] [(.ref r0), (.int 5)])) rfl rfl (hb hby own_d1_13) _ ?_
    rw [len_of So69 No69]
    show Steps p.tables e below (To66.setTop (mkF m 14 #[.val (.ref r0), .val (.ref bn2), .val (.int 5)] [(.int 7), (.int 5)])) _
    refine XS.icmpNo Xo66.here hx rfl (hb hby own_d1_14) rfl (XT.ii_ge_f (by decide : (5 : Int32) < (7 : Int32))) ?_
    refine XS.iloadN Xo66.here hx rfl (hb hby own_d1_17) rfl ?_
    refine XS.iconst Xo66.here hx rfl (hb hby own_d1_18) ?_
    refine XS.irem Xo66.here hx rfl (hb hby own_d1_19) rfl (by decide) ?_
    show Steps p.tables e below (To66.setTop (mkF m 20 #[.val (.ref r0), .val (.ref bn2), .val (.int 5)] [(.int 1)])) _
    refine XS.ifYes Xo66.here hx rfl (pc0 := 20) (pc' := 37) rfl (hb hby own_d1_20) rfl (XT.i0_ne_t (by decide : ¬ ((1 : Int32) = (0 : Int32)))) (by decide) (by decide) ?_
    refine XS.aloadN Xo66.here hx rfl (hb hby own_d1_37) rfl rfl ?_
    refine XS.iloadN Xo66.here hx rfl (hb hby own_d1_38) rfl ?_
    refine XS.iconst Xo66.here hx rfl (hb hby own_d1_39) ?_
    refine XS.idiv Xo66.here hx rfl (hb hby own_d1_40) rfl (by decide) ?_
    show Steps p.tables e below (To66.setTop (mkF m 41 #[.val (.ref r0), .val (.ref bn2), .val (.int 5)] [(.int 2), (.ref bn2)])) _
    refine XT.dup2 Xo66.here hx rfl (hb hby own_d1_41) rfl rfl rfl ?_
    refine Xo66.daload hx (j := (2 : Int32)) (v := (.double (own_vh7_5 x_r0_3 x_r0_4))) (by rw [eo66]; exact Aro70.1) (State.isArrayOf_alike hZ.alike Aro70.2.1) Aro70.2.2 hi71 ha72 (g := (mkF m 42 #[.val (.ref r0), .val (.ref bn2), .val (.int 5)] [(.int 2), (.ref bn2), (.int 2), (.ref bn2)])) rfl rfl (hb hby own_d1_42) _ ?_
    refine XS.aloadN Xo66.here hx rfl (hb hby own_d1_43) rfl rfl ?_
    refine XS.iloadN Xo66.here hx rfl (hb hby own_d1_44) rfl ?_
    refine Xo66.daload hx (j := (5 : Int32)) (v := (.double x_r0_5)) (by rw [eo66]; exact Aro69.1) (State.isArrayOf_alike hZ.alike Aro69.2.1) Aro69.2.2 hi73 ha74 (g := (mkF m 45 #[.val (.ref r0), .val (.ref bn2), .val (.int 5)] [(.int 5), (.ref r0), (.double (own_vh7_5 x_r0_3 x_r0_4)), (.int 2), (.ref bn2)])) rfl rfl (hb hby own_d1_45) _ ?_
    show Steps p.tables e below (To66.setTop (mkF m 46 #[.val (.ref r0), .val (.ref bn2), .val (.int 5)] [(.double x_r0_5), (.double (own_vh7_5 x_r0_3 x_r0_4)), (.int 2), (.ref bn2)])) _
    refine Xo66.ldc2DoubleC hx hown (mvT hZ (own_W hw 14 rfl)) (g := (mkF m 46 #[.val (.ref r0), .val (.ref bn2), .val (.int 5)] [(.double x_r0_5), (.double (own_vh7_5 x_r0_3 x_r0_4)), (.int 2), (.ref bn2)])) rfl (hb hby own_d1_46) _ ?_
    refine XS.ddivS Xo66.here hx rfl (hb hby own_d1_49) rfl nn49_3 rfl ?_
    refine XS.daddS Xo66.here hx rfl (hb hby own_d1_50) rfl nn50_3 rfl ?_
    refine sto75 _ ?_
    show Steps p.tables e below (To75.setTop (mkF m 52 #[.val (.ref r0), .val (.ref bn2), .val (.int 5)] [])) _
    refine XS.aloadN Xo75.here hx rfl (hb hby own_d1_52) rfl rfl ?_
    refine XS.iloadN Xo75.here hx rfl (hb hby own_d1_53) rfl ?_
    refine XS.iconst Xo75.here hx rfl (hb hby own_d1_54) ?_
    refine XS.idiv Xo75.here hx rfl (hb hby own_d1_55) rfl (by decide) ?_
    show Steps p.tables e below (To75.setTop (mkF m 56 #[.val (.ref r0), .val (.ref bn2), .val (.int 5)] [(.int 2), (.ref bn2)])) _
    refine XS.iconst Xo75.here hx rfl (hb hby own_d1_56) ?_
    refine XS.iadd Xo75.here hx rfl (hb hby own_d1_57) rfl ?_
    show Steps p.tables e below (To75.setTop (mkF m 58 #[.val (.ref r0), .val (.ref bn2), .val (.int 5)] [(.int 3), (.ref bn2)])) _
    refine XT.dup2 Xo75.here hx rfl (hb hby own_d1_58) rfl rfl rfl ?_
    refine Xo75.daload hx (j := (3 : Int32)) (v := (.double 0)) (by rw [eo75]; exact Aro77.1) (State.isArrayOf_alike hZ.alike Aro77.2.1) Aro77.2.2 hi78 ha79 (g := (mkF m 59 #[.val (.ref r0), .val (.ref bn2), .val (.int 5)] [(.int 3), (.ref bn2), (.int 3), (.ref bn2)])) rfl rfl (hb hby own_d1_59) _ ?_
    refine XS.aloadN Xo75.here hx rfl (hb hby own_d1_60) rfl rfl ?_
    refine XS.iloadN Xo75.here hx rfl (hb hby own_d1_61) rfl ?_
    refine Xo75.daload hx (j := (5 : Int32)) (v := (.double x_r0_5)) (by rw [eo75]; exact Aro81.1) (State.isArrayOf_alike hZ.alike Aro81.2.1) Aro81.2.2 hi82 ha83 (g := (mkF m 62 #[.val (.ref r0), .val (.ref bn2), .val (.int 5)] [(.int 5), (.ref r0), (.double 0), (.int 3), (.ref bn2)])) rfl rfl (hb hby own_d1_62) _ ?_
    show Steps p.tables e below (To75.setTop (mkF m 63 #[.val (.ref r0), .val (.ref bn2), .val (.int 5)] [(.double x_r0_5), (.double 0), (.int 3), (.ref bn2)])) _
    refine Xo75.ldc2DoubleC hx hown (mvT hZ (own_W hw 14 rfl)) (g := (mkF m 63 #[.val (.ref r0), .val (.ref bn2), .val (.int 5)] [(.double x_r0_5), (.double 0), (.int 3), (.ref bn2)])) rfl (hb hby own_d1_63) _ ?_
    refine XS.ddivS Xo75.here hx rfl (hb hby own_d1_66) rfl nn49_3 rfl ?_
    refine XS.daddS Xo75.here hx rfl (hb hby own_d1_67) rfl nn67_3 rfl ?_
    refine sto84 _ ?_
    show Steps p.tables e below (To84.setTop (mkF m 69 #[.val (.ref r0), .val (.ref bn2), .val (.int 5)] [])) _
    refine XS.iinc Xo84.here hx rfl (hb hby own_d1_69) rfl (l' := #[.val (.ref r0), .val (.ref bn2), .val (.int 6)]) rfl ?_
    refine XS.goto Xo84.here hx rfl (pc0 := 72) (pc' := 11) rfl (hb hby own_d1_72) (by decide) (by decide) ?_
    refine XS.iloadN Xo84.here hx rfl (hb hby own_d1_11) rfl ?_
    refine XS.aloadN Xo84.here hx rfl (hb hby own_d1_12) rfl rfl ?_
    refine Xo84.arraylength hx (by rw [eo84]; exact Aro87.1) (State.isArrayOf_alike hZ.alike Aro87.2.1) (g := (mkF m 13 #[.val (.ref r0), .val (.ref bn2), .val (.int 6)] [(.ref r0), (.int 6)])) rfl rfl (hb hby own_d1_13) _ ?_
    rw [len_of So87 No87]
    show Steps p.tables e below (To84.setTop (mkF m 14 #[.val (.ref r0), .val (.ref bn2), .val (.int 6)] [(.int 7), (.int 6)])) _
    refine XS.icmpNo Xo84.here hx rfl (hb hby own_d1_14) rfl (XT.ii_ge_f (by decide : (6 : Int32) < (7 : Int32))) ?_
    refine XS.iloadN Xo84.here hx rfl (hb hby own_d1_17) rfl ?_
    refine XS.iconst Xo84.here hx rfl (hb hby own_d1_18) ?_
    refine XS.irem Xo84.here hx rfl (hb hby own_d1_19) rfl (by decide) ?_
    show Steps p.tables e below (To84.setTop (mkF m 20 #[.val (.ref r0), .val (.ref bn2), .val (.int 6)] [(.int 0)])) _
    refine XS.ifNo Xo84.here hx rfl (hb hby own_d1_20) rfl (XT.i0_ne_f (by decide : (0 : Int32) = (0 : Int32))) ?_
    refine XS.aloadN Xo84.here hx rfl (hb hby own_d1_23) rfl rfl ?_
    refine XS.iloadN Xo84.here hx rfl (hb hby own_d1_24) rfl ?_
    refine XS.iconst Xo84.here hx rfl (hb hby own_d1_25) ?_
    refine XS.idiv Xo84.here hx rfl (hb hby own_d1_26) rfl (by decide) ?_
    show Steps p.tables e below (To84.setTop (mkF m 27 #[.val (.ref r0), .val (.ref bn2), .val (.int 6)] [(.int 3), (.ref bn2)])) _
    refine XT.dup2 Xo84.here hx rfl (hb hby own_d1_27) rfl rfl rfl ?_
    refine Xo84.daload hx (j := (3 : Int32)) (v := (.double (own_vh7_7 x_r0_5))) (by rw [eo84]; exact Aro88.1) (State.isArrayOf_alike hZ.alike Aro88.2.1) Aro88.2.2 hi89 ha90 (g := (mkF m 28 #[.val (.ref r0), .val (.ref bn2), .val (.int 6)] [(.int 3), (.ref bn2), (.int 3), (.ref bn2)])) rfl rfl (hb hby own_d1_28) _ ?_
    refine XS.aloadN Xo84.here hx rfl (hb hby own_d1_29) rfl rfl ?_
    refine XS.iloadN Xo84.here hx rfl (hb hby own_d1_30) rfl ?_
    refine Xo84.daload hx (j := (6 : Int32)) (v := (.double x_r0_6)) (by rw [eo84]; exact Aro87.1) (State.isArrayOf_alike hZ.alike Aro87.2.1) Aro87.2.2 hi91 ha92 (g := (mkF m 31 #[.val (.ref r0), .val (.ref bn2), .val (.int 6)] [(.int 6), (.ref r0), (.double (own_vh7_7 x_r0_5)), (.int 3), (.ref bn2)])) rfl rfl (hb hby own_d1_31) _ ?_
    show Steps p.tables e below (To84.setTop (mkF m 32 #[.val (.ref r0), .val (.ref bn2), .val (.int 6)] [(.double x_r0_6), (.double (own_vh7_7 x_r0_5)), (.int 3), (.ref bn2)])) _
    refine XS.daddS Xo84.here hx rfl (hb hby own_d1_32) rfl nn32_4 rfl ?_
    refine sto93 _ ?_
    refine XS.goto Xo93.here hx rfl (pc0 := 34) (pc' := 69) rfl (hb hby own_d1_34) (by decide) (by decide) ?_
    refine XS.iinc Xo93.here hx rfl (hb hby own_d1_69) rfl (l' := #[.val (.ref r0), .val (.ref bn2), .val (.int 7)]) rfl ?_
    refine XS.goto Xo93.here hx rfl (pc0 := 72) (pc' := 11) rfl (hb hby own_d1_72) (by decide) (by decide) ?_
    refine XS.iloadN Xo93.here hx rfl (hb hby own_d1_11) rfl ?_
    refine XS.aloadN Xo93.here hx rfl (hb hby own_d1_12) rfl rfl ?_
    refine Xo93.arraylength hx (by rw [eo93]; exact Aro96.1) (State.isArrayOf_alike hZ.alike Aro96.2.1) (g := (mkF m 13 #[.val (.ref r0), .val (.ref bn2), .val (.int 7)] [(.ref r0), (.int 7)])) rfl rfl (hb hby own_d1_13) _ ?_
    rw [len_of So96 No96]
    show Steps p.tables e below (To93.setTop (mkF m 14 #[.val (.ref r0), .val (.ref bn2), .val (.int 7)] [(.int 7), (.int 7)])) _
    refine XS.icmpYes Xo93.here hx rfl (pc0 := 14) (pc' := 75) rfl (hb hby own_d1_14) rfl (XT.ii_ge_t (by decide : ¬ ((7 : Int32) < (7 : Int32)))) (by decide) (by decide) ?_
    refine XS.aloadN Xo93.here hx rfl (hb hby own_d1_75) rfl rfl ?_
    show Steps p.tables e below (To93.setTop (mkF m 76 #[.val (.ref r0), .val (.ref bn2), .val (.int 7)] [(.ref bn2)])) _
    jvm_step Xo93.here [Xo93.here.top, hx, (hb hby own_d1_76), Xo93.method', Bd.returns, Value.isRef, FieldType.isReference]
    first | (intro acts; rw [hr _ acts rfl rfl rfl]) | rw [hr _ _ rfl rfl rfl]
    exact Steps.refl _
  · show own_Qh7 Z r0 k_r0 x_r0_0 x_r0_1 x_r0_2 x_r0_3 x_r0_4 x_r0_5 x_r0_6 h0 n0 _ To93.heap _
    rw [eo93]
    exact ⟨bn2, kn2, rfl, Nfo93, ((((((((((((Keep.refl h0 []).ext En2).wr Wo11 (Or.inr sz_bn2)).wr Wo21 (Or.inr sz_bn2)).wr Wo30 (Or.inr sz_bn2)).wr Wo39 (Or.inr sz_bn2)).wr Wo48 (Or.inr sz_bn2)).wr Wo57 (Or.inr sz_bn2)).wr Wo66 (Or.inr sz_bn2)).wr Wo75 (Or.inr sz_bn2)).wr Wo84 (Or.inr sz_bn2)).wr Wo93 (Or.inr sz_bn2)), sz_bn2, Vwo93⟩
def own_vh8_0 (x_r0_0 : UInt64) (x_r0_1 : UInt64) : UInt64 := (FP.dadd (FP.dadd (0 : UInt64) x_r0_0) (FP.ddiv x_r0_1 (4611686018427387904 : UInt64)))
def own_vh8_1 (x_r0_1 : UInt64) : UInt64 := (FP.dadd (0 : UInt64) (FP.ddiv x_r0_1 (4611686018427387904 : UInt64)))
def own_vh8_2 (x_r0_1 : UInt64) (x_r0_2 : UInt64) : UInt64 := (FP.dadd (own_vh8_1 x_r0_1) x_r0_2)
def own_vh8_3 (x_r0_1 : UInt64) (x_r0_2 : UInt64) (x_r0_3 : UInt64) : UInt64 := (FP.dadd (own_vh8_2 x_r0_1 x_r0_2) (FP.ddiv x_r0_3 (4611686018427387904 : UInt64)))
def own_vh8_4 (x_r0_3 : UInt64) : UInt64 := (FP.dadd (0 : UInt64) (FP.ddiv x_r0_3 (4611686018427387904 : UInt64)))
def own_vh8_5 (x_r0_3 : UInt64) (x_r0_4 : UInt64) : UInt64 := (FP.dadd (own_vh8_4 x_r0_3) x_r0_4)
def own_vh8_6 (x_r0_3 : UInt64) (x_r0_4 : UInt64) (x_r0_5 : UInt64) : UInt64 := (FP.dadd (own_vh8_5 x_r0_3 x_r0_4) (FP.ddiv x_r0_5 (4611686018427387904 : UInt64)))
def own_vh8_7 (x_r0_5 : UInt64) : UInt64 := (FP.dadd (0 : UInt64) (FP.ddiv x_r0_5 (4611686018427387904 : UInt64)))
def own_vh8_8 (x_r0_5 : UInt64) (x_r0_6 : UInt64) : UInt64 := (FP.dadd (own_vh8_7 x_r0_5) x_r0_6)
def own_vh8_9 (x_r0_5 : UInt64) (x_r0_6 : UInt64) (x_r0_7 : UInt64) : UInt64 := (FP.dadd (own_vh8_8 x_r0_5 x_r0_6) (FP.ddiv x_r0_7 (4611686018427387904 : UInt64)))
def own_vh8_10 (x_r0_7 : UInt64) : UInt64 := (FP.dadd (0 : UInt64) (FP.ddiv x_r0_7 (4611686018427387904 : UInt64)))
theorem own_efh8 (m : MethodId) (r0 : Addr) : entryFrame m #[(.ref r0)] 3 = mkF m 0 #[.val (.ref r0), .unset, .unset] [] := by first | (simp [entryFrame, mkF, argsToLocals, Value.category]; done) | rfl
def own_Qh8 (Z : State) (r0 : Addr) (k_r0 : ClassId) (x_r0_0 : UInt64) (x_r0_1 : UInt64) (x_r0_2 : UInt64) (x_r0_3 : UInt64) (x_r0_4 : UInt64) (x_r0_5 : UInt64) (x_r0_6 : UInt64) (x_r0_7 : UInt64) (h0 : Heap) (n0 : Nat) (v : Option Value) (h : Heap) (L : List Loc) : Prop := ∃ (bn2 : Addr) (kn2 : ClassId), v = some (.ref bn2) ∧ Fr n0 L ∧ Keep h0 h [] ∧ h0.size ≤ bn2 ∧ Arv Z h bn2 kn2 .double (5 : Int32) [(.double (own_vh8_0 x_r0_0 x_r0_1)), (.double (own_vh8_3 x_r0_1 x_r0_2 x_r0_3)), (.double (own_vh8_6 x_r0_3 x_r0_4 x_r0_5)), (.double (own_vh8_9 x_r0_5 x_r0_6 x_r0_7)), (.double (own_vh8_10 x_r0_7))] (.double 0)
set_option maxRecDepth 65536 in
set_option maxHeartbeats 40000000 in
theorem own_rmh8 (l : Launch) (Z : State) (a0 : Array Value) (hw : ∀ d ∈ tables_1, d.before a0 Z = true) (ws : List Jvm.Cond) (r0 : Addr) (k_r0 : ClassId) (x_r0_0 : UInt64) (x_r0_1 : UInt64) (x_r0_2 : UInt64) (x_r0_3 : UInt64) (x_r0_4 : UInt64) (x_r0_5 : UInt64) (x_r0_6 : UInt64) (x_r0_7 : UInt64) (h0 : Heap) (n0 : Nat) (Z0 : n0 ≤ h0.size) (V_r0 : Arv Z h0 r0 k_r0 .double (8 : Int32) [(.double x_r0_0), (.double x_r0_1), (.double x_r0_2), (.double x_r0_3), (.double x_r0_4), (.double x_r0_5), (.double x_r0_6), (.double x_r0_7)] (.double 0)) (nn32 : NoNaN64 (FP.dadd (0 : UInt64) x_r0_0)) (nn49 : NoNaN64 (FP.ddiv x_r0_1 (4611686018427387904 : UInt64))) (nn50 : NoNaN64 (FP.dadd (FP.dadd (0 : UInt64) x_r0_0) (FP.ddiv x_r0_1 (4611686018427387904 : UInt64)))) (nn67 : NoNaN64 (FP.dadd (0 : UInt64) (FP.ddiv x_r0_1 (4611686018427387904 : UInt64)))) (nn32_2 : NoNaN64 (FP.dadd (own_vh8_1 x_r0_1) x_r0_2)) (nn49_2 : NoNaN64 (FP.ddiv x_r0_3 (4611686018427387904 : UInt64))) (nn50_2 : NoNaN64 (FP.dadd (own_vh8_2 x_r0_1 x_r0_2) (FP.ddiv x_r0_3 (4611686018427387904 : UInt64)))) (nn67_2 : NoNaN64 (FP.dadd (0 : UInt64) (FP.ddiv x_r0_3 (4611686018427387904 : UInt64)))) (nn32_3 : NoNaN64 (FP.dadd (own_vh8_4 x_r0_3) x_r0_4)) (nn49_3 : NoNaN64 (FP.ddiv x_r0_5 (4611686018427387904 : UInt64))) (nn50_3 : NoNaN64 (FP.dadd (own_vh8_5 x_r0_3 x_r0_4) (FP.ddiv x_r0_5 (4611686018427387904 : UInt64)))) (nn67_3 : NoNaN64 (FP.dadd (0 : UInt64) (FP.ddiv x_r0_5 (4611686018427387904 : UInt64)))) (nn32_4 : NoNaN64 (FP.dadd (own_vh8_7 x_r0_5) x_r0_6)) (nn49_4 : NoNaN64 (FP.ddiv x_r0_7 (4611686018427387904 : UInt64))) (nn50_4 : NoNaN64 (FP.dadd (own_vh8_8 x_r0_5 x_r0_6) (FP.ddiv x_r0_7 (4611686018427387904 : UInt64)))) (nn67_4 : NoNaN64 (FP.dadd (0 : UInt64) (FP.ddiv x_r0_7 (4611686018427387904 : UInt64)))) :
    MetFree l (⟨"com/example/surepath/surepath/TravelTime$Lattices", "halved", "([D)[D"⟩ : MethodName) (head1 (Jvm.Cond.code (⟨"com/example/surepath/surepath/TravelTime$Lattices", "halved", "([D)[D"⟩ : MethodName) prog_64_method_16_code 3 (some (.array .double)) :: ws) ({ frames := 0, cells := 1, slots := 5, locals := 0 } : Room)) (fun a U => a = #[(.ref r0)] ∧ Z.Warmed39 U.vm ∧ U.heap = h0) (fun _ _ _ _ _ => True) (fun _ U o U' => ∃ v L, o = .returned v ∧ own_Qh8 Z r0 k_r0 x_r0_0 x_r0_1 x_r0_2 x_r0_3 x_r0_4 x_r0_5 x_r0_6 x_r0_7 h0 n0 v U'.heap L ∧ FrameEnd U o U' L ({ frames := 0, cells := 1, slots := 5, locals := 0 } : Room).cells ({ frames := 0, cells := 1, slots := 5, locals := 0 } : Room).slots) := by
  refine MetFree.of_bodySF (plainFor_of_name own_pn1) hisR ?_
  intro p e s m args below meth c s₁ Bd hml0 hP hK
  obtain ⟨rfl, hZ, hh⟩ := hP
  have hx := Bd.exec
  have hby := Bd.bytes
  have hml : c.maxLocals = 3 := hml0
  have hown : s.vm.findClass "com/example/surepath/surepath/TravelTime$Lattices" = some m.cls := findClass_of_methodNamed Bd.named
  have hnm := (name_of_methodNamed Bd.named Bd.method).1
  have X0 : Stand p l e ({ frames := 0, cells := 1, slots := 5, locals := 0 } : Room) s m #[(.ref r0)] below meth c s₁ [] 0 0 := Stand.of_body Bd
  have e0 : s₁.heap = h0 := by rw [← hh, Bd.state]; rfl
  have N0 := Fr.nil n0
  have Zr : h0.size ≤ h0.size := Nat.le_refl _
  have pre0 : ∀ t, Steps p.tables e below (s₁.setTop (mkF m 0 #[.val (.ref r0), .unset, .unset] [])) t → Steps p.tables e below (s₁.setTop (entryFrame m #[(.ref r0)] 3)) t := fun t k => castTop (own_efh8 m r0) k
  obtain ⟨clo1, Aro1, qo1, So1, No1, Ho1, Go1⟩ := id V_r0
  obtain ⟨Tn2, hn2, kn2, Xn2, en2, En2, An2, stn2⟩ := newP X0 hx hZ (own_W hw 1 rfl) e0 (g := (mkF m 6 #[.val (.ref r0), .unset, .unset] [(.int 5)])) rfl (hb hby own_d1_6) rfl (by decide) (cap := 5) (by decide) (by decide) (by decide) (by decide)
  obtain ⟨bn2, gn2⟩ : ∃ z, z = h0.size := ⟨_, rfl⟩
  rw [← gn2] at An2 stn2
  have g_bn2 : n0 ≤ bn2 := Nat.le_trans Z0 (Nat.le_of_eq gn2.symm)
  have sz_bn2 : h0.size ≤ bn2 := Nat.le_trans Zr (Nat.le_of_eq gn2.symm)
  have sz3 : h0.size ≤ hn2.size := Nat.le_trans Zr En2.1
  have V_bn2 : Arv Z hn2 bn2 kn2 .double (5 : Int32) [(.double 0), (.double 0), (.double 0), (.double 0), (.double 0)] (.double 0) := (Arv.new An2 (by decide)).pad (pad_rep [] (.double 0) 5)
  have F4 := (V_r0.ext En2)
  obtain ⟨clo5, Aro5, qo5, So5, No5, Ho5, Go5⟩ := id F4
  obtain ⟨clo6, Aro6, qo6, So6, No6, Ho6, Go6⟩ := id V_bn2
  have hi7 := inb_of (j := (0 : Int32)) So6 ⟨by decide, by decide⟩
  have ha8 : _ = some (Value.double (0 : UInt64)) := Ho6.at hi7 rfl
  have hi9 := inb_of (j := (0 : Int32)) So5 ⟨by decide, by decide⟩
  have ha10 : _ = some (Value.double x_r0_0) := Ho5.at hi9 rfl
  obtain ⟨To11, ho11, Xo11, eo11, Wo11, sto11⟩ := stD Xn2 hx hZ en2 Aro6 (j := (0 : Int32)) hi7 (g := (mkF m 33 #[.val (.ref r0), .val (.ref bn2), .val (.int 0)] [(.double (FP.dadd (0 : UInt64) x_r0_0)), (.int 0), (.ref bn2)])) rfl rfl (hb hby own_d1_33)
  have Vwo11 : Arv Z ho11 bn2 kn2 .double (5 : Int32) [(.double (FP.dadd (0 : UInt64) x_r0_0)), (.double 0), (.double 0), (.double 0), (.double 0)] (.double 0) := Arv.set Aro6 qo6 So6 No6 Ho6 Go6 rfl Wo11 0 rfl (Nat.le_of_ble_eq_true rfl)
  have sz12 : h0.size ≤ ho11.size := Nat.le_trans sz3 (Nat.le_of_eq Wo11.size.symm)
  have Nfo11 := Fr.snoc Xo11 N0 g_bn2
  have ne13 : bn2 ≠ r0 := (Ne.symm (Nat.ne_of_lt (Nat.lt_of_lt_of_le V_r0.lt (Nat.le_of_eq gn2.symm))))
  have F14 := (F4.other Wo11 (Ne.symm ne13))
  obtain ⟨clo15, Aro15, qo15, So15, No15, Ho15, Go15⟩ := id F14
  obtain ⟨clo16, Aro16, qo16, So16, No16, Ho16, Go16⟩ := id Vwo11
  have hi17 := inb_of (j := (0 : Int32)) So16 ⟨by decide, by decide⟩
  have ha18 : _ = some (Value.double (FP.dadd (0 : UInt64) x_r0_0)) := Ho16.at hi17 rfl
  have hi19 := inb_of (j := (1 : Int32)) So15 ⟨by decide, by decide⟩
  have ha20 : _ = some (Value.double x_r0_1) := Ho15.at hi19 rfl
  obtain ⟨To21, ho21, Xo21, eo21, Wo21, sto21⟩ := stD Xo11 hx hZ eo11 Aro16 (j := (0 : Int32)) hi17 (g := (mkF m 51 #[.val (.ref r0), .val (.ref bn2), .val (.int 1)] [(.double (FP.dadd (FP.dadd (0 : UInt64) x_r0_0) (FP.ddiv x_r0_1 (4611686018427387904 : UInt64)))), (.int 0), (.ref bn2)])) rfl rfl (hb hby own_d1_51)
  have Vwo21 : Arv Z ho21 bn2 kn2 .double (5 : Int32) [(.double (own_vh8_0 x_r0_0 x_r0_1)), (.double 0), (.double 0), (.double 0), (.double 0)] (.double 0) := Arv.set Aro16 qo16 So16 No16 Ho16 Go16 rfl Wo21 0 rfl (Nat.le_of_ble_eq_true rfl)
  have sz22 : h0.size ≤ ho21.size := Nat.le_trans sz12 (Nat.le_of_eq Wo21.size.symm)
  have Nfo21 := Fr.snoc Xo21 Nfo11 g_bn2
  obtain ⟨clo23, Aro23, qo23, So23, No23, Ho23, Go23⟩ := id Vwo21
  have hi24 := inb_of (j := (1 : Int32)) So23 ⟨by decide, by decide⟩
  have ha25 : _ = some (Value.double (0 : UInt64)) := Ho23.at hi24 rfl
  have F26 := (F14.other Wo21 (Ne.symm ne13))
  obtain ⟨clo27, Aro27, qo27, So27, No27, Ho27, Go27⟩ := id F26
  have hi28 := inb_of (j := (1 : Int32)) So27 ⟨by decide, by decide⟩
  have ha29 : _ = some (Value.double x_r0_1) := Ho27.at hi28 rfl
  obtain ⟨To30, ho30, Xo30, eo30, Wo30, sto30⟩ := stD Xo21 hx hZ eo21 Aro23 (j := (1 : Int32)) hi24 (g := (mkF m 68 #[.val (.ref r0), .val (.ref bn2), .val (.int 1)] [(.double (FP.dadd (0 : UInt64) (FP.ddiv x_r0_1 (4611686018427387904 : UInt64)))), (.int 1), (.ref bn2)])) rfl rfl (hb hby own_d1_68)
  have Vwo30 : Arv Z ho30 bn2 kn2 .double (5 : Int32) [(.double (own_vh8_0 x_r0_0 x_r0_1)), (.double (own_vh8_1 x_r0_1)), (.double 0), (.double 0), (.double 0)] (.double 0) := Arv.set Aro23 qo23 So23 No23 Ho23 Go23 rfl Wo30 1 rfl (Nat.le_of_ble_eq_true rfl)
  have sz31 : h0.size ≤ ho30.size := Nat.le_trans sz22 (Nat.le_of_eq Wo30.size.symm)
  have Nfo30 := Fr.snoc Xo30 Nfo21 g_bn2
  have F32 := (F26.other Wo30 (Ne.symm ne13))
  obtain ⟨clo33, Aro33, qo33, So33, No33, Ho33, Go33⟩ := id F32
  obtain ⟨clo34, Aro34, qo34, So34, No34, Ho34, Go34⟩ := id Vwo30
  have hi35 := inb_of (j := (1 : Int32)) So34 ⟨by decide, by decide⟩
  have ha36 : _ = some (Value.double (own_vh8_1 x_r0_1)) := Ho34.at hi35 rfl
  have hi37 := inb_of (j := (2 : Int32)) So33 ⟨by decide, by decide⟩
  have ha38 : _ = some (Value.double x_r0_2) := Ho33.at hi37 rfl
  obtain ⟨To39, ho39, Xo39, eo39, Wo39, sto39⟩ := stD Xo30 hx hZ eo30 Aro34 (j := (1 : Int32)) hi35 (g := (mkF m 33 #[.val (.ref r0), .val (.ref bn2), .val (.int 2)] [(.double (FP.dadd (own_vh8_1 x_r0_1) x_r0_2)), (.int 1), (.ref bn2)])) rfl rfl (hb hby own_d1_33)
  have Vwo39 : Arv Z ho39 bn2 kn2 .double (5 : Int32) [(.double (own_vh8_0 x_r0_0 x_r0_1)), (.double (own_vh8_2 x_r0_1 x_r0_2)), (.double 0), (.double 0), (.double 0)] (.double 0) := Arv.set Aro34 qo34 So34 No34 Ho34 Go34 rfl Wo39 1 rfl (Nat.le_of_ble_eq_true rfl)
  have sz40 : h0.size ≤ ho39.size := Nat.le_trans sz31 (Nat.le_of_eq Wo39.size.symm)
  have Nfo39 := Fr.snoc Xo39 Nfo30 g_bn2
  have F41 := (F32.other Wo39 (Ne.symm ne13))
  obtain ⟨clo42, Aro42, qo42, So42, No42, Ho42, Go42⟩ := id F41
  obtain ⟨clo43, Aro43, qo43, So43, No43, Ho43, Go43⟩ := id Vwo39
  have hi44 := inb_of (j := (1 : Int32)) So43 ⟨by decide, by decide⟩
  have ha45 : _ = some (Value.double (own_vh8_2 x_r0_1 x_r0_2)) := Ho43.at hi44 rfl
  have hi46 := inb_of (j := (3 : Int32)) So42 ⟨by decide, by decide⟩
  have ha47 : _ = some (Value.double x_r0_3) := Ho42.at hi46 rfl
  obtain ⟨To48, ho48, Xo48, eo48, Wo48, sto48⟩ := stD Xo39 hx hZ eo39 Aro43 (j := (1 : Int32)) hi44 (g := (mkF m 51 #[.val (.ref r0), .val (.ref bn2), .val (.int 3)] [(.double (FP.dadd (own_vh8_2 x_r0_1 x_r0_2) (FP.ddiv x_r0_3 (4611686018427387904 : UInt64)))), (.int 1), (.ref bn2)])) rfl rfl (hb hby own_d1_51)
  have Vwo48 : Arv Z ho48 bn2 kn2 .double (5 : Int32) [(.double (own_vh8_0 x_r0_0 x_r0_1)), (.double (own_vh8_3 x_r0_1 x_r0_2 x_r0_3)), (.double 0), (.double 0), (.double 0)] (.double 0) := Arv.set Aro43 qo43 So43 No43 Ho43 Go43 rfl Wo48 1 rfl (Nat.le_of_ble_eq_true rfl)
  have sz49 : h0.size ≤ ho48.size := Nat.le_trans sz40 (Nat.le_of_eq Wo48.size.symm)
  have Nfo48 := Fr.snoc Xo48 Nfo39 g_bn2
  obtain ⟨clo50, Aro50, qo50, So50, No50, Ho50, Go50⟩ := id Vwo48
  have hi51 := inb_of (j := (2 : Int32)) So50 ⟨by decide, by decide⟩
  have ha52 : _ = some (Value.double (0 : UInt64)) := Ho50.at hi51 rfl
  have F53 := (F41.other Wo48 (Ne.symm ne13))
  obtain ⟨clo54, Aro54, qo54, So54, No54, Ho54, Go54⟩ := id F53
  have hi55 := inb_of (j := (3 : Int32)) So54 ⟨by decide, by decide⟩
  have ha56 : _ = some (Value.double x_r0_3) := Ho54.at hi55 rfl
  obtain ⟨To57, ho57, Xo57, eo57, Wo57, sto57⟩ := stD Xo48 hx hZ eo48 Aro50 (j := (2 : Int32)) hi51 (g := (mkF m 68 #[.val (.ref r0), .val (.ref bn2), .val (.int 3)] [(.double (FP.dadd (0 : UInt64) (FP.ddiv x_r0_3 (4611686018427387904 : UInt64)))), (.int 2), (.ref bn2)])) rfl rfl (hb hby own_d1_68)
  have Vwo57 : Arv Z ho57 bn2 kn2 .double (5 : Int32) [(.double (own_vh8_0 x_r0_0 x_r0_1)), (.double (own_vh8_3 x_r0_1 x_r0_2 x_r0_3)), (.double (own_vh8_4 x_r0_3)), (.double 0), (.double 0)] (.double 0) := Arv.set Aro50 qo50 So50 No50 Ho50 Go50 rfl Wo57 2 rfl (Nat.le_of_ble_eq_true rfl)
  have sz58 : h0.size ≤ ho57.size := Nat.le_trans sz49 (Nat.le_of_eq Wo57.size.symm)
  have Nfo57 := Fr.snoc Xo57 Nfo48 g_bn2
  have F59 := (F53.other Wo57 (Ne.symm ne13))
  obtain ⟨clo60, Aro60, qo60, So60, No60, Ho60, Go60⟩ := id F59
  obtain ⟨clo61, Aro61, qo61, So61, No61, Ho61, Go61⟩ := id Vwo57
  have hi62 := inb_of (j := (2 : Int32)) So61 ⟨by decide, by decide⟩
  have ha63 : _ = some (Value.double (own_vh8_4 x_r0_3)) := Ho61.at hi62 rfl
  have hi64 := inb_of (j := (4 : Int32)) So60 ⟨by decide, by decide⟩
  have ha65 : _ = some (Value.double x_r0_4) := Ho60.at hi64 rfl
  obtain ⟨To66, ho66, Xo66, eo66, Wo66, sto66⟩ := stD Xo57 hx hZ eo57 Aro61 (j := (2 : Int32)) hi62 (g := (mkF m 33 #[.val (.ref r0), .val (.ref bn2), .val (.int 4)] [(.double (FP.dadd (own_vh8_4 x_r0_3) x_r0_4)), (.int 2), (.ref bn2)])) rfl rfl (hb hby own_d1_33)
  have Vwo66 : Arv Z ho66 bn2 kn2 .double (5 : Int32) [(.double (own_vh8_0 x_r0_0 x_r0_1)), (.double (own_vh8_3 x_r0_1 x_r0_2 x_r0_3)), (.double (own_vh8_5 x_r0_3 x_r0_4)), (.double 0), (.double 0)] (.double 0) := Arv.set Aro61 qo61 So61 No61 Ho61 Go61 rfl Wo66 2 rfl (Nat.le_of_ble_eq_true rfl)
  have sz67 : h0.size ≤ ho66.size := Nat.le_trans sz58 (Nat.le_of_eq Wo66.size.symm)
  have Nfo66 := Fr.snoc Xo66 Nfo57 g_bn2
  have F68 := (F59.other Wo66 (Ne.symm ne13))
  obtain ⟨clo69, Aro69, qo69, So69, No69, Ho69, Go69⟩ := id F68
  obtain ⟨clo70, Aro70, qo70, So70, No70, Ho70, Go70⟩ := id Vwo66
  have hi71 := inb_of (j := (2 : Int32)) So70 ⟨by decide, by decide⟩
  have ha72 : _ = some (Value.double (own_vh8_5 x_r0_3 x_r0_4)) := Ho70.at hi71 rfl
  have hi73 := inb_of (j := (5 : Int32)) So69 ⟨by decide, by decide⟩
  have ha74 : _ = some (Value.double x_r0_5) := Ho69.at hi73 rfl
  obtain ⟨To75, ho75, Xo75, eo75, Wo75, sto75⟩ := stD Xo66 hx hZ eo66 Aro70 (j := (2 : Int32)) hi71 (g := (mkF m 51 #[.val (.ref r0), .val (.ref bn2), .val (.int 5)] [(.double (FP.dadd (own_vh8_5 x_r0_3 x_r0_4) (FP.ddiv x_r0_5 (4611686018427387904 : UInt64)))), (.int 2), (.ref bn2)])) rfl rfl (hb hby own_d1_51)
  have Vwo75 : Arv Z ho75 bn2 kn2 .double (5 : Int32) [(.double (own_vh8_0 x_r0_0 x_r0_1)), (.double (own_vh8_3 x_r0_1 x_r0_2 x_r0_3)), (.double (own_vh8_6 x_r0_3 x_r0_4 x_r0_5)), (.double 0), (.double 0)] (.double 0) := Arv.set Aro70 qo70 So70 No70 Ho70 Go70 rfl Wo75 2 rfl (Nat.le_of_ble_eq_true rfl)
  have sz76 : h0.size ≤ ho75.size := Nat.le_trans sz67 (Nat.le_of_eq Wo75.size.symm)
  have Nfo75 := Fr.snoc Xo75 Nfo66 g_bn2
  obtain ⟨clo77, Aro77, qo77, So77, No77, Ho77, Go77⟩ := id Vwo75
  have hi78 := inb_of (j := (3 : Int32)) So77 ⟨by decide, by decide⟩
  have ha79 : _ = some (Value.double (0 : UInt64)) := Ho77.at hi78 rfl
  have F80 := (F68.other Wo75 (Ne.symm ne13))
  obtain ⟨clo81, Aro81, qo81, So81, No81, Ho81, Go81⟩ := id F80
  have hi82 := inb_of (j := (5 : Int32)) So81 ⟨by decide, by decide⟩
  have ha83 : _ = some (Value.double x_r0_5) := Ho81.at hi82 rfl
  obtain ⟨To84, ho84, Xo84, eo84, Wo84, sto84⟩ := stD Xo75 hx hZ eo75 Aro77 (j := (3 : Int32)) hi78 (g := (mkF m 68 #[.val (.ref r0), .val (.ref bn2), .val (.int 5)] [(.double (FP.dadd (0 : UInt64) (FP.ddiv x_r0_5 (4611686018427387904 : UInt64)))), (.int 3), (.ref bn2)])) rfl rfl (hb hby own_d1_68)
  have Vwo84 : Arv Z ho84 bn2 kn2 .double (5 : Int32) [(.double (own_vh8_0 x_r0_0 x_r0_1)), (.double (own_vh8_3 x_r0_1 x_r0_2 x_r0_3)), (.double (own_vh8_6 x_r0_3 x_r0_4 x_r0_5)), (.double (own_vh8_7 x_r0_5)), (.double 0)] (.double 0) := Arv.set Aro77 qo77 So77 No77 Ho77 Go77 rfl Wo84 3 rfl (Nat.le_of_ble_eq_true rfl)
  have sz85 : h0.size ≤ ho84.size := Nat.le_trans sz76 (Nat.le_of_eq Wo84.size.symm)
  have Nfo84 := Fr.snoc Xo84 Nfo75 g_bn2
  have F86 := (F80.other Wo84 (Ne.symm ne13))
  obtain ⟨clo87, Aro87, qo87, So87, No87, Ho87, Go87⟩ := id F86
  obtain ⟨clo88, Aro88, qo88, So88, No88, Ho88, Go88⟩ := id Vwo84
  have hi89 := inb_of (j := (3 : Int32)) So88 ⟨by decide, by decide⟩
  have ha90 : _ = some (Value.double (own_vh8_7 x_r0_5)) := Ho88.at hi89 rfl
  have hi91 := inb_of (j := (6 : Int32)) So87 ⟨by decide, by decide⟩
  have ha92 : _ = some (Value.double x_r0_6) := Ho87.at hi91 rfl
  obtain ⟨To93, ho93, Xo93, eo93, Wo93, sto93⟩ := stD Xo84 hx hZ eo84 Aro88 (j := (3 : Int32)) hi89 (g := (mkF m 33 #[.val (.ref r0), .val (.ref bn2), .val (.int 6)] [(.double (FP.dadd (own_vh8_7 x_r0_5) x_r0_6)), (.int 3), (.ref bn2)])) rfl rfl (hb hby own_d1_33)
  have Vwo93 : Arv Z ho93 bn2 kn2 .double (5 : Int32) [(.double (own_vh8_0 x_r0_0 x_r0_1)), (.double (own_vh8_3 x_r0_1 x_r0_2 x_r0_3)), (.double (own_vh8_6 x_r0_3 x_r0_4 x_r0_5)), (.double (own_vh8_8 x_r0_5 x_r0_6)), (.double 0)] (.double 0) := Arv.set Aro88 qo88 So88 No88 Ho88 Go88 rfl Wo93 3 rfl (Nat.le_of_ble_eq_true rfl)
  have sz94 : h0.size ≤ ho93.size := Nat.le_trans sz85 (Nat.le_of_eq Wo93.size.symm)
  have Nfo93 := Fr.snoc Xo93 Nfo84 g_bn2
  have F95 := (F86.other Wo93 (Ne.symm ne13))
  obtain ⟨clo96, Aro96, qo96, So96, No96, Ho96, Go96⟩ := id F95
  obtain ⟨clo97, Aro97, qo97, So97, No97, Ho97, Go97⟩ := id Vwo93
  have hi98 := inb_of (j := (3 : Int32)) So97 ⟨by decide, by decide⟩
  have ha99 : _ = some (Value.double (own_vh8_8 x_r0_5 x_r0_6)) := Ho97.at hi98 rfl
  have hi100 := inb_of (j := (7 : Int32)) So96 ⟨by decide, by decide⟩
  have ha101 : _ = some (Value.double x_r0_7) := Ho96.at hi100 rfl
  obtain ⟨To102, ho102, Xo102, eo102, Wo102, sto102⟩ := stD Xo93 hx hZ eo93 Aro97 (j := (3 : Int32)) hi98 (g := (mkF m 51 #[.val (.ref r0), .val (.ref bn2), .val (.int 7)] [(.double (FP.dadd (own_vh8_8 x_r0_5 x_r0_6) (FP.ddiv x_r0_7 (4611686018427387904 : UInt64)))), (.int 3), (.ref bn2)])) rfl rfl (hb hby own_d1_51)
  have Vwo102 : Arv Z ho102 bn2 kn2 .double (5 : Int32) [(.double (own_vh8_0 x_r0_0 x_r0_1)), (.double (own_vh8_3 x_r0_1 x_r0_2 x_r0_3)), (.double (own_vh8_6 x_r0_3 x_r0_4 x_r0_5)), (.double (own_vh8_9 x_r0_5 x_r0_6 x_r0_7)), (.double 0)] (.double 0) := Arv.set Aro97 qo97 So97 No97 Ho97 Go97 rfl Wo102 3 rfl (Nat.le_of_ble_eq_true rfl)
  have sz103 : h0.size ≤ ho102.size := Nat.le_trans sz94 (Nat.le_of_eq Wo102.size.symm)
  have Nfo102 := Fr.snoc Xo102 Nfo93 g_bn2
  obtain ⟨clo104, Aro104, qo104, So104, No104, Ho104, Go104⟩ := id Vwo102
  have hi105 := inb_of (j := (4 : Int32)) So104 ⟨by decide, by decide⟩
  have ha106 : _ = some (Value.double (0 : UInt64)) := Ho104.at hi105 rfl
  have F107 := (F95.other Wo102 (Ne.symm ne13))
  obtain ⟨clo108, Aro108, qo108, So108, No108, Ho108, Go108⟩ := id F107
  have hi109 := inb_of (j := (7 : Int32)) So108 ⟨by decide, by decide⟩
  have ha110 : _ = some (Value.double x_r0_7) := Ho108.at hi109 rfl
  obtain ⟨To111, ho111, Xo111, eo111, Wo111, sto111⟩ := stD Xo102 hx hZ eo102 Aro104 (j := (4 : Int32)) hi105 (g := (mkF m 68 #[.val (.ref r0), .val (.ref bn2), .val (.int 7)] [(.double (FP.dadd (0 : UInt64) (FP.ddiv x_r0_7 (4611686018427387904 : UInt64)))), (.int 4), (.ref bn2)])) rfl rfl (hb hby own_d1_68)
  have Vwo111 : Arv Z ho111 bn2 kn2 .double (5 : Int32) [(.double (own_vh8_0 x_r0_0 x_r0_1)), (.double (own_vh8_3 x_r0_1 x_r0_2 x_r0_3)), (.double (own_vh8_6 x_r0_3 x_r0_4 x_r0_5)), (.double (own_vh8_9 x_r0_5 x_r0_6 x_r0_7)), (.double (own_vh8_10 x_r0_7))] (.double 0) := Arv.set Aro104 qo104 So104 No104 Ho104 Go104 rfl Wo111 4 rfl (Nat.le_of_ble_eq_true rfl)
  have sz112 : h0.size ≤ ho111.size := Nat.le_trans sz103 (Nat.le_of_eq Wo111.size.symm)
  have Nfo111 := Fr.snoc Xo111 Nfo102 g_bn2
  have F113 := (F107.other Wo111 (Ne.symm ne13))
  obtain ⟨clo114, Aro114, qo114, So114, No114, Ho114, Go114⟩ := id F113
  obtain ⟨fs, hr, hrun, hended, hW, hsame⟩ := Xo111.leave (v := some (.ref bn2)) (fun h => by rw [Bd.returns] at h; cases h)
  refine ⟨_, _, pre0 _ (?_), hrun, hended, _, _, rfl, ?_, ⟨_, rfl⟩, hW, hsame.mono (by decide) (by decide)⟩
  · show Steps p.tables e below (s₁.setTop (mkF m 0 #[.val (.ref r0), .unset, .unset] [])) _
    refine XS.aloadN X0.here hx rfl (hb hby own_d1_0) rfl rfl ?_
    refine X0.arraylength hx (by rw [e0]; exact Aro1.1) (State.isArrayOf_alike hZ.alike Aro1.2.1) (g := (mkF m 1 #[.val (.ref r0), .unset, .unset] [(.ref r0)])) rfl rfl (hb hby own_d1_1) _ ?_
    rw [len_of So1 No1]
    show Steps p.tables e below (s₁.setTop (mkF m 2 #[.val (.ref r0), .unset, .unset] [(.int 8)])) _
    refine XS.iconst X0.here hx rfl (hb hby own_d1_2) ?_
    refine XS.idiv X0.here hx rfl (hb hby own_d1_3) rfl (by decide) ?_
    refine XS.iconst X0.here hx rfl (hb hby own_d1_4) ?_
    refine XS.iadd X0.here hx rfl (hb hby own_d1_5) rfl ?_
    show Steps p.tables e below (s₁.setTop (mkF m 6 #[.val (.ref r0), .unset, .unset] [(.int 5)])) _
    refine stn2 _ ?_
    refine XS.astoreN Xn2.here hx rfl (hb hby own_d1_8) rfl rfl (l' := #[.val (.ref r0), .val (.ref bn2), .unset]) rfl ?_
    refine XS.iconst Xn2.here hx rfl (hb hby own_d1_9) ?_
    refine XS.istoreN Xn2.here hx rfl (hb hby own_d1_10) rfl (l' := #[.val (.ref r0), .val (.ref bn2), .val (.int 0)]) rfl ?_
    refine XS.iloadN Xn2.here hx rfl (hb hby own_d1_11) rfl ?_
    refine XS.aloadN Xn2.here hx rfl (hb hby own_d1_12) rfl rfl ?_
    refine Xn2.arraylength hx (by rw [en2]; exact Aro5.1) (State.isArrayOf_alike hZ.alike Aro5.2.1) (g := (mkF m 13 #[.val (.ref r0), .val (.ref bn2), .val (.int 0)] [(.ref r0), (.int 0)])) rfl rfl (hb hby own_d1_13) _ ?_
    rw [len_of So5 No5]
    show Steps p.tables e below (Tn2.setTop (mkF m 14 #[.val (.ref r0), .val (.ref bn2), .val (.int 0)] [(.int 8), (.int 0)])) _
    refine XS.icmpNo Xn2.here hx rfl (hb hby own_d1_14) rfl (XT.ii_ge_f (by decide : (0 : Int32) < (8 : Int32))) ?_
    refine XS.iloadN Xn2.here hx rfl (hb hby own_d1_17) rfl ?_
    refine XS.iconst Xn2.here hx rfl (hb hby own_d1_18) ?_
    refine XS.irem Xn2.here hx rfl (hb hby own_d1_19) rfl (by decide) ?_
    show Steps p.tables e below (Tn2.setTop (mkF m 20 #[.val (.ref r0), .val (.ref bn2), .val (.int 0)] [(.int 0)])) _
    refine XS.ifNo Xn2.here hx rfl (hb hby own_d1_20) rfl (XT.i0_ne_f (by decide : (0 : Int32) = (0 : Int32))) ?_
    refine XS.aloadN Xn2.here hx rfl (hb hby own_d1_23) rfl rfl ?_
    refine XS.iloadN Xn2.here hx rfl (hb hby own_d1_24) rfl ?_
    refine XS.iconst Xn2.here hx rfl (hb hby own_d1_25) ?_
    refine XS.idiv Xn2.here hx rfl (hb hby own_d1_26) rfl (by decide) ?_
    show Steps p.tables e below (Tn2.setTop (mkF m 27 #[.val (.ref r0), .val (.ref bn2), .val (.int 0)] [(.int 0), (.ref bn2)])) _
    refine XT.dup2 Xn2.here hx rfl (hb hby own_d1_27) rfl rfl rfl ?_
    refine Xn2.daload hx (j := (0 : Int32)) (v := (.double 0)) (by rw [en2]; exact Aro6.1) (State.isArrayOf_alike hZ.alike Aro6.2.1) Aro6.2.2 hi7 ha8 (g := (mkF m 28 #[.val (.ref r0), .val (.ref bn2), .val (.int 0)] [(.int 0), (.ref bn2), (.int 0), (.ref bn2)])) rfl rfl (hb hby own_d1_28) _ ?_
    refine XS.aloadN Xn2.here hx rfl (hb hby own_d1_29) rfl rfl ?_
    refine XS.iloadN Xn2.here hx rfl (hb hby own_d1_30) rfl ?_
    refine Xn2.daload hx (j := (0 : Int32)) (v := (.double x_r0_0)) (by rw [en2]; exact Aro5.1) (State.isArrayOf_alike hZ.alike Aro5.2.1) Aro5.2.2 hi9 ha10 (g := (mkF m 31 #[.val (.ref r0), .val (.ref bn2), .val (.int 0)] [(.int 0), (.ref r0), (.double 0), (.int 0), (.ref bn2)])) rfl rfl (hb hby own_d1_31) _ ?_
    show Steps p.tables e below (Tn2.setTop (mkF m 32 #[.val (.ref r0), .val (.ref bn2), .val (.int 0)] [(.double x_r0_0), (.double 0), (.int 0), (.ref bn2)])) _
    refine XS.daddS Xn2.here hx rfl (hb hby own_d1_32) rfl nn32 rfl ?_
    refine sto11 _ ?_
    refine XS.goto Xo11.here hx rfl (pc0 := 34) (pc' := 69) rfl (hb hby own_d1_34) (by decide) (by decide) ?_
    refine XS.iinc Xo11.here hx rfl (hb hby own_d1_69) rfl (l' := #[.val (.ref r0), .val (.ref bn2), .val (.int 1)]) rfl ?_
    refine XS.goto Xo11.here hx rfl (pc0 := 72) (pc' := 11) rfl (hb hby own_d1_72) (by decide) (by decide) ?_
    refine XS.iloadN Xo11.here hx rfl (hb hby own_d1_11) rfl ?_
    refine XS.aloadN Xo11.here hx rfl (hb hby own_d1_12) rfl rfl ?_
    refine Xo11.arraylength hx (by rw [eo11]; exact Aro15.1) (State.isArrayOf_alike hZ.alike Aro15.2.1) (g := (mkF m 13 #[.val (.ref r0), .val (.ref bn2), .val (.int 1)] [(.ref r0), (.int 1)])) rfl rfl (hb hby own_d1_13) _ ?_
    rw [len_of So15 No15]
    show Steps p.tables e below (To11.setTop (mkF m 14 #[.val (.ref r0), .val (.ref bn2), .val (.int 1)] [(.int 8), (.int 1)])) _
    refine XS.icmpNo Xo11.here hx rfl (hb hby own_d1_14) rfl (XT.ii_ge_f (by decide : (1 : Int32) < (8 : Int32))) ?_
    refine XS.iloadN Xo11.here hx rfl (hb hby own_d1_17) rfl ?_
    refine XS.iconst Xo11.here hx rfl (hb hby own_d1_18) ?_
    refine XS.irem Xo11.here hx rfl (hb hby own_d1_19) rfl (by decide) ?_
    show Steps p.tables e below (To11.setTop (mkF m 20 #[.val (.ref r0), .val (.ref bn2), .val (.int 1)] [(.int 1)])) _
    refine XS.ifYes Xo11.here hx rfl (pc0 := 20) (pc' := 37) rfl (hb hby own_d1_20) rfl (XT.i0_ne_t (by decide : ¬ ((1 : Int32) = (0 : Int32)))) (by decide) (by decide) ?_
    refine XS.aloadN Xo11.here hx rfl (hb hby own_d1_37) rfl rfl ?_
    refine XS.iloadN Xo11.here hx rfl (hb hby own_d1_38) rfl ?_
    refine XS.iconst Xo11.here hx rfl (hb hby own_d1_39) ?_
    refine XS.idiv Xo11.here hx rfl (hb hby own_d1_40) rfl (by decide) ?_
    show Steps p.tables e below (To11.setTop (mkF m 41 #[.val (.ref r0), .val (.ref bn2), .val (.int 1)] [(.int 0), (.ref bn2)])) _
    refine XT.dup2 Xo11.here hx rfl (hb hby own_d1_41) rfl rfl rfl ?_
    refine Xo11.daload hx (j := (0 : Int32)) (v := (.double (FP.dadd (0 : UInt64) x_r0_0))) (by rw [eo11]; exact Aro16.1) (State.isArrayOf_alike hZ.alike Aro16.2.1) Aro16.2.2 hi17 ha18 (g := (mkF m 42 #[.val (.ref r0), .val (.ref bn2), .val (.int 1)] [(.int 0), (.ref bn2), (.int 0), (.ref bn2)])) rfl rfl (hb hby own_d1_42) _ ?_
    refine XS.aloadN Xo11.here hx rfl (hb hby own_d1_43) rfl rfl ?_
    refine XS.iloadN Xo11.here hx rfl (hb hby own_d1_44) rfl ?_
    refine Xo11.daload hx (j := (1 : Int32)) (v := (.double x_r0_1)) (by rw [eo11]; exact Aro15.1) (State.isArrayOf_alike hZ.alike Aro15.2.1) Aro15.2.2 hi19 ha20 (g := (mkF m 45 #[.val (.ref r0), .val (.ref bn2), .val (.int 1)] [(.int 1), (.ref r0), (.double (FP.dadd (0 : UInt64) x_r0_0)), (.int 0), (.ref bn2)])) rfl rfl (hb hby own_d1_45) _ ?_
    show Steps p.tables e below (To11.setTop (mkF m 46 #[.val (.ref r0), .val (.ref bn2), .val (.int 1)] [(.double x_r0_1), (.double (FP.dadd (0 : UInt64) x_r0_0)), (.int 0), (.ref bn2)])) _
    refine Xo11.ldc2DoubleC hx hown (mvT hZ (own_W hw 14 rfl)) (g := (mkF m 46 #[.val (.ref r0), .val (.ref bn2), .val (.int 1)] [(.double x_r0_1), (.double (FP.dadd (0 : UInt64) x_r0_0)), (.int 0), (.ref bn2)])) rfl (hb hby own_d1_46) _ ?_
    refine XS.ddivS Xo11.here hx rfl (hb hby own_d1_49) rfl nn49 rfl ?_
    refine XS.daddS Xo11.here hx rfl (hb hby own_d1_50) rfl nn50 rfl ?_
    refine sto21 _ ?_
    show Steps p.tables e below (To21.setTop (mkF m 52 #[.val (.ref r0), .val (.ref bn2), .val (.int 1)] [])) _
    refine XS.aloadN Xo21.here hx rfl (hb hby own_d1_52) rfl rfl ?_
    refine XS.iloadN Xo21.here hx rfl (hb hby own_d1_53) rfl ?_
    refine XS.iconst Xo21.here hx rfl (hb hby own_d1_54) ?_
    refine XS.idiv Xo21.here hx rfl (hb hby own_d1_55) rfl (by decide) ?_
    show Steps p.tables e below (To21.setTop (mkF m 56 #[.val (.ref r0), .val (.ref bn2), .val (.int 1)] [(.int 0), (.ref bn2)])) _
    refine XS.iconst Xo21.here hx rfl (hb hby own_d1_56) ?_
    refine XS.iadd Xo21.here hx rfl (hb hby own_d1_57) rfl ?_
    show Steps p.tables e below (To21.setTop (mkF m 58 #[.val (.ref r0), .val (.ref bn2), .val (.int 1)] [(.int 1), (.ref bn2)])) _
    refine XT.dup2 Xo21.here hx rfl (hb hby own_d1_58) rfl rfl rfl ?_
    refine Xo21.daload hx (j := (1 : Int32)) (v := (.double 0)) (by rw [eo21]; exact Aro23.1) (State.isArrayOf_alike hZ.alike Aro23.2.1) Aro23.2.2 hi24 ha25 (g := (mkF m 59 #[.val (.ref r0), .val (.ref bn2), .val (.int 1)] [(.int 1), (.ref bn2), (.int 1), (.ref bn2)])) rfl rfl (hb hby own_d1_59) _ ?_
    refine XS.aloadN Xo21.here hx rfl (hb hby own_d1_60) rfl rfl ?_
    refine XS.iloadN Xo21.here hx rfl (hb hby own_d1_61) rfl ?_
    refine Xo21.daload hx (j := (1 : Int32)) (v := (.double x_r0_1)) (by rw [eo21]; exact Aro27.1) (State.isArrayOf_alike hZ.alike Aro27.2.1) Aro27.2.2 hi28 ha29 (g := (mkF m 62 #[.val (.ref r0), .val (.ref bn2), .val (.int 1)] [(.int 1), (.ref r0), (.double 0), (.int 1), (.ref bn2)])) rfl rfl (hb hby own_d1_62) _ ?_
    show Steps p.tables e below (To21.setTop (mkF m 63 #[.val (.ref r0), .val (.ref bn2), .val (.int 1)] [(.double x_r0_1), (.double 0), (.int 1), (.ref bn2)])) _
    refine Xo21.ldc2DoubleC hx hown (mvT hZ (own_W hw 14 rfl)) (g := (mkF m 63 #[.val (.ref r0), .val (.ref bn2), .val (.int 1)] [(.double x_r0_1), (.double 0), (.int 1), (.ref bn2)])) rfl (hb hby own_d1_63) _ ?_
    refine XS.ddivS Xo21.here hx rfl (hb hby own_d1_66) rfl nn49 rfl ?_
    refine XS.daddS Xo21.here hx rfl (hb hby own_d1_67) rfl nn67 rfl ?_
    refine sto30 _ ?_
    show Steps p.tables e below (To30.setTop (mkF m 69 #[.val (.ref r0), .val (.ref bn2), .val (.int 1)] [])) _
    refine XS.iinc Xo30.here hx rfl (hb hby own_d1_69) rfl (l' := #[.val (.ref r0), .val (.ref bn2), .val (.int 2)]) rfl ?_
    refine XS.goto Xo30.here hx rfl (pc0 := 72) (pc' := 11) rfl (hb hby own_d1_72) (by decide) (by decide) ?_
    refine XS.iloadN Xo30.here hx rfl (hb hby own_d1_11) rfl ?_
    refine XS.aloadN Xo30.here hx rfl (hb hby own_d1_12) rfl rfl ?_
    refine Xo30.arraylength hx (by rw [eo30]; exact Aro33.1) (State.isArrayOf_alike hZ.alike Aro33.2.1) (g := (mkF m 13 #[.val (.ref r0), .val (.ref bn2), .val (.int 2)] [(.ref r0), (.int 2)])) rfl rfl (hb hby own_d1_13) _ ?_
    rw [len_of So33 No33]
    show Steps p.tables e below (To30.setTop (mkF m 14 #[.val (.ref r0), .val (.ref bn2), .val (.int 2)] [(.int 8), (.int 2)])) _
    refine XS.icmpNo Xo30.here hx rfl (hb hby own_d1_14) rfl (XT.ii_ge_f (by decide : (2 : Int32) < (8 : Int32))) ?_
    refine XS.iloadN Xo30.here hx rfl (hb hby own_d1_17) rfl ?_
    refine XS.iconst Xo30.here hx rfl (hb hby own_d1_18) ?_
    refine XS.irem Xo30.here hx rfl (hb hby own_d1_19) rfl (by decide) ?_
    show Steps p.tables e below (To30.setTop (mkF m 20 #[.val (.ref r0), .val (.ref bn2), .val (.int 2)] [(.int 0)])) _
    refine XS.ifNo Xo30.here hx rfl (hb hby own_d1_20) rfl (XT.i0_ne_f (by decide : (0 : Int32) = (0 : Int32))) ?_
    refine XS.aloadN Xo30.here hx rfl (hb hby own_d1_23) rfl rfl ?_
    refine XS.iloadN Xo30.here hx rfl (hb hby own_d1_24) rfl ?_
    refine XS.iconst Xo30.here hx rfl (hb hby own_d1_25) ?_
    refine XS.idiv Xo30.here hx rfl (hb hby own_d1_26) rfl (by decide) ?_
    show Steps p.tables e below (To30.setTop (mkF m 27 #[.val (.ref r0), .val (.ref bn2), .val (.int 2)] [(.int 1), (.ref bn2)])) _
    refine XT.dup2 Xo30.here hx rfl (hb hby own_d1_27) rfl rfl rfl ?_
    refine Xo30.daload hx (j := (1 : Int32)) (v := (.double (own_vh8_1 x_r0_1))) (by rw [eo30]; exact Aro34.1) (State.isArrayOf_alike hZ.alike Aro34.2.1) Aro34.2.2 hi35 ha36 (g := (mkF m 28 #[.val (.ref r0), .val (.ref bn2), .val (.int 2)] [(.int 1), (.ref bn2), (.int 1), (.ref bn2)])) rfl rfl (hb hby own_d1_28) _ ?_
    refine XS.aloadN Xo30.here hx rfl (hb hby own_d1_29) rfl rfl ?_
    refine XS.iloadN Xo30.here hx rfl (hb hby own_d1_30) rfl ?_
    refine Xo30.daload hx (j := (2 : Int32)) (v := (.double x_r0_2)) (by rw [eo30]; exact Aro33.1) (State.isArrayOf_alike hZ.alike Aro33.2.1) Aro33.2.2 hi37 ha38 (g := (mkF m 31 #[.val (.ref r0), .val (.ref bn2), .val (.int 2)] [(.int 2), (.ref r0), (.double (own_vh8_1 x_r0_1)), (.int 1), (.ref bn2)])) rfl rfl (hb hby own_d1_31) _ ?_
    show Steps p.tables e below (To30.setTop (mkF m 32 #[.val (.ref r0), .val (.ref bn2), .val (.int 2)] [(.double x_r0_2), (.double (own_vh8_1 x_r0_1)), (.int 1), (.ref bn2)])) _
    refine XS.daddS Xo30.here hx rfl (hb hby own_d1_32) rfl nn32_2 rfl ?_
    refine sto39 _ ?_
    refine XS.goto Xo39.here hx rfl (pc0 := 34) (pc' := 69) rfl (hb hby own_d1_34) (by decide) (by decide) ?_
    refine XS.iinc Xo39.here hx rfl (hb hby own_d1_69) rfl (l' := #[.val (.ref r0), .val (.ref bn2), .val (.int 3)]) rfl ?_
    refine XS.goto Xo39.here hx rfl (pc0 := 72) (pc' := 11) rfl (hb hby own_d1_72) (by decide) (by decide) ?_
    refine XS.iloadN Xo39.here hx rfl (hb hby own_d1_11) rfl ?_
    refine XS.aloadN Xo39.here hx rfl (hb hby own_d1_12) rfl rfl ?_
    refine Xo39.arraylength hx (by rw [eo39]; exact Aro42.1) (State.isArrayOf_alike hZ.alike Aro42.2.1) (g := (mkF m 13 #[.val (.ref r0), .val (.ref bn2), .val (.int 3)] [(.ref r0), (.int 3)])) rfl rfl (hb hby own_d1_13) _ ?_
    rw [len_of So42 No42]
    show Steps p.tables e below (To39.setTop (mkF m 14 #[.val (.ref r0), .val (.ref bn2), .val (.int 3)] [(.int 8), (.int 3)])) _
    refine XS.icmpNo Xo39.here hx rfl (hb hby own_d1_14) rfl (XT.ii_ge_f (by decide : (3 : Int32) < (8 : Int32))) ?_
    refine XS.iloadN Xo39.here hx rfl (hb hby own_d1_17) rfl ?_
    refine XS.iconst Xo39.here hx rfl (hb hby own_d1_18) ?_
    refine XS.irem Xo39.here hx rfl (hb hby own_d1_19) rfl (by decide) ?_
    show Steps p.tables e below (To39.setTop (mkF m 20 #[.val (.ref r0), .val (.ref bn2), .val (.int 3)] [(.int 1)])) _
    refine XS.ifYes Xo39.here hx rfl (pc0 := 20) (pc' := 37) rfl (hb hby own_d1_20) rfl (XT.i0_ne_t (by decide : ¬ ((1 : Int32) = (0 : Int32)))) (by decide) (by decide) ?_
    refine XS.aloadN Xo39.here hx rfl (hb hby own_d1_37) rfl rfl ?_
    refine XS.iloadN Xo39.here hx rfl (hb hby own_d1_38) rfl ?_
    refine XS.iconst Xo39.here hx rfl (hb hby own_d1_39) ?_
    refine XS.idiv Xo39.here hx rfl (hb hby own_d1_40) rfl (by decide) ?_
    show Steps p.tables e below (To39.setTop (mkF m 41 #[.val (.ref r0), .val (.ref bn2), .val (.int 3)] [(.int 1), (.ref bn2)])) _
    refine XT.dup2 Xo39.here hx rfl (hb hby own_d1_41) rfl rfl rfl ?_
    refine Xo39.daload hx (j := (1 : Int32)) (v := (.double (own_vh8_2 x_r0_1 x_r0_2))) (by rw [eo39]; exact Aro43.1) (State.isArrayOf_alike hZ.alike Aro43.2.1) Aro43.2.2 hi44 ha45 (g := (mkF m 42 #[.val (.ref r0), .val (.ref bn2), .val (.int 3)] [(.int 1), (.ref bn2), (.int 1), (.ref bn2)])) rfl rfl (hb hby own_d1_42) _ ?_
    refine XS.aloadN Xo39.here hx rfl (hb hby own_d1_43) rfl rfl ?_
    refine XS.iloadN Xo39.here hx rfl (hb hby own_d1_44) rfl ?_
    refine Xo39.daload hx (j := (3 : Int32)) (v := (.double x_r0_3)) (by rw [eo39]; exact Aro42.1) (State.isArrayOf_alike hZ.alike Aro42.2.1) Aro42.2.2 hi46 ha47 (g := (mkF m 45 #[.val (.ref r0), .val (.ref bn2), .val (.int 3)] [(.int 3), (.ref r0), (.double (own_vh8_2 x_r0_1 x_r0_2)), (.int 1), (.ref bn2)])) rfl rfl (hb hby own_d1_45) _ ?_
    show Steps p.tables e below (To39.setTop (mkF m 46 #[.val (.ref r0), .val (.ref bn2), .val (.int 3)] [(.double x_r0_3), (.double (own_vh8_2 x_r0_1 x_r0_2)), (.int 1), (.ref bn2)])) _
    refine Xo39.ldc2DoubleC hx hown (mvT hZ (own_W hw 14 rfl)) (g := (mkF m 46 #[.val (.ref r0), .val (.ref bn2), .val (.int 3)] [(.double x_r0_3), (.double (own_vh8_2 x_r0_1 x_r0_2)), (.int 1), (.ref bn2)])) rfl (hb hby own_d1_46) _ ?_
    refine XS.ddivS Xo39.here hx rfl (hb hby own_d1_49) rfl nn49_2 rfl ?_
    refine XS.daddS Xo39.here hx rfl (hb hby own_d1_50) rfl nn50_2 rfl ?_
    refine sto48 _ ?_
    show Steps p.tables e below (To48.setTop (mkF m 52 #[.val (.ref r0), .val (.ref bn2), .val (.int 3)] [])) _
    refine XS.aloadN Xo48.here hx rfl (hb hby own_d1_52) rfl rfl ?_
    refine XS.iloadN Xo48.here hx rfl (hb hby own_d1_53) rfl ?_
    refine XS.iconst Xo48.here hx rfl (hb hby own_d1_54) ?_
    refine XS.idiv Xo48.here hx rfl (hb hby own_d1_55) rfl (by decide) ?_
    show Steps p.tables e below (To48.setTop (mkF m 56 #[.val (.ref r0), .val (.ref bn2), .val (.int 3)] [(.int 1), (.ref bn2)])) _
    refine XS.iconst Xo48.here hx rfl (hb hby own_d1_56) ?_
    refine XS.iadd Xo48.here hx rfl (hb hby own_d1_57) rfl ?_
    show Steps p.tables e below (To48.setTop (mkF m 58 #[.val (.ref r0), .val (.ref bn2), .val (.int 3)] [(.int 2), (.ref bn2)])) _
    refine XT.dup2 Xo48.here hx rfl (hb hby own_d1_58) rfl rfl rfl ?_
    refine Xo48.daload hx (j := (2 : Int32)) (v := (.double 0)) (by rw [eo48]; exact Aro50.1) (State.isArrayOf_alike hZ.alike Aro50.2.1) Aro50.2.2 hi51 ha52 (g := (mkF m 59 #[.val (.ref r0), .val (.ref bn2), .val (.int 3)] [(.int 2), (.ref bn2), (.int 2), (.ref bn2)])) rfl rfl (hb hby own_d1_59) _ ?_
    refine XS.aloadN Xo48.here hx rfl (hb hby own_d1_60) rfl rfl ?_
    refine XS.iloadN Xo48.here hx rfl (hb hby own_d1_61) rfl ?_
    refine Xo48.daload hx (j := (3 : Int32)) (v := (.double x_r0_3)) (by rw [eo48]; exact Aro54.1) (State.isArrayOf_alike hZ.alike Aro54.2.1) Aro54.2.2 hi55 ha56 (g := (mkF m 62 #[.val (.ref r0), .val (.ref bn2), .val (.int 3)] [(.int 3), (.ref r0), (.double 0), (.int 2), (.ref bn2)])) rfl rfl (hb hby own_d1_62) _ ?_
    show Steps p.tables e below (To48.setTop (mkF m 63 #[.val (.ref r0), .val (.ref bn2), .val (.int 3)] [(.double x_r0_3), (.double 0), (.int 2), (.ref bn2)])) _
    refine Xo48.ldc2DoubleC hx hown (mvT hZ (own_W hw 14 rfl)) (g := (mkF m 63 #[.val (.ref r0), .val (.ref bn2), .val (.int 3)] [(.double x_r0_3), (.double 0), (.int 2), (.ref bn2)])) rfl (hb hby own_d1_63) _ ?_
    refine XS.ddivS Xo48.here hx rfl (hb hby own_d1_66) rfl nn49_2 rfl ?_
    refine XS.daddS Xo48.here hx rfl (hb hby own_d1_67) rfl nn67_2 rfl ?_
    refine sto57 _ ?_
    show Steps p.tables e below (To57.setTop (mkF m 69 #[.val (.ref r0), .val (.ref bn2), .val (.int 3)] [])) _
    refine XS.iinc Xo57.here hx rfl (hb hby own_d1_69) rfl (l' := #[.val (.ref r0), .val (.ref bn2), .val (.int 4)]) rfl ?_
    refine XS.goto Xo57.here hx rfl (pc0 := 72) (pc' := 11) rfl (hb hby own_d1_72) (by decide) (by decide) ?_
    refine XS.iloadN Xo57.here hx rfl (hb hby own_d1_11) rfl ?_
    refine XS.aloadN Xo57.here hx rfl (hb hby own_d1_12) rfl rfl ?_
    refine Xo57.arraylength hx (by rw [eo57]; exact Aro60.1) (State.isArrayOf_alike hZ.alike Aro60.2.1) (g := (mkF m 13 #[.val (.ref r0), .val (.ref bn2), .val (.int 4)] [(.ref r0), (.int 4)])) rfl rfl (hb hby own_d1_13) _ ?_
    rw [len_of So60 No60]
    show Steps p.tables e below (To57.setTop (mkF m 14 #[.val (.ref r0), .val (.ref bn2), .val (.int 4)] [(.int 8), (.int 4)])) _
    refine XS.icmpNo Xo57.here hx rfl (hb hby own_d1_14) rfl (XT.ii_ge_f (by decide : (4 : Int32) < (8 : Int32))) ?_
    refine XS.iloadN Xo57.here hx rfl (hb hby own_d1_17) rfl ?_
    refine XS.iconst Xo57.here hx rfl (hb hby own_d1_18) ?_
    refine XS.irem Xo57.here hx rfl (hb hby own_d1_19) rfl (by decide) ?_
    show Steps p.tables e below (To57.setTop (mkF m 20 #[.val (.ref r0), .val (.ref bn2), .val (.int 4)] [(.int 0)])) _
    refine XS.ifNo Xo57.here hx rfl (hb hby own_d1_20) rfl (XT.i0_ne_f (by decide : (0 : Int32) = (0 : Int32))) ?_
    refine XS.aloadN Xo57.here hx rfl (hb hby own_d1_23) rfl rfl ?_
    refine XS.iloadN Xo57.here hx rfl (hb hby own_d1_24) rfl ?_
    refine XS.iconst Xo57.here hx rfl (hb hby own_d1_25) ?_
    refine XS.idiv Xo57.here hx rfl (hb hby own_d1_26) rfl (by decide) ?_
    show Steps p.tables e below (To57.setTop (mkF m 27 #[.val (.ref r0), .val (.ref bn2), .val (.int 4)] [(.int 2), (.ref bn2)])) _
    refine XT.dup2 Xo57.here hx rfl (hb hby own_d1_27) rfl rfl rfl ?_
    refine Xo57.daload hx (j := (2 : Int32)) (v := (.double (own_vh8_4 x_r0_3))) (by rw [eo57]; exact Aro61.1) (State.isArrayOf_alike hZ.alike Aro61.2.1) Aro61.2.2 hi62 ha63 (g := (mkF m 28 #[.val (.ref r0), .val (.ref bn2), .val (.int 4)] [(.int 2), (.ref bn2), (.int 2), (.ref bn2)])) rfl rfl (hb hby own_d1_28) _ ?_
    refine XS.aloadN Xo57.here hx rfl (hb hby own_d1_29) rfl rfl ?_
    refine XS.iloadN Xo57.here hx rfl (hb hby own_d1_30) rfl ?_
    refine Xo57.daload hx (j := (4 : Int32)) (v := (.double x_r0_4)) (by rw [eo57]; exact Aro60.1) (State.isArrayOf_alike hZ.alike Aro60.2.1) Aro60.2.2 hi64 ha65 (g := (mkF m 31 #[.val (.ref r0), .val (.ref bn2), .val (.int 4)] [(.int 4), (.ref r0), (.double (own_vh8_4 x_r0_3)), (.int 2), (.ref bn2)])) rfl rfl (hb hby own_d1_31) _ ?_
    show Steps p.tables e below (To57.setTop (mkF m 32 #[.val (.ref r0), .val (.ref bn2), .val (.int 4)] [(.double x_r0_4), (.double (own_vh8_4 x_r0_3)), (.int 2), (.ref bn2)])) _
    refine XS.daddS Xo57.here hx rfl (hb hby own_d1_32) rfl nn32_3 rfl ?_
    refine sto66 _ ?_
    refine XS.goto Xo66.here hx rfl (pc0 := 34) (pc' := 69) rfl (hb hby own_d1_34) (by decide) (by decide) ?_
    refine XS.iinc Xo66.here hx rfl (hb hby own_d1_69) rfl (l' := #[.val (.ref r0), .val (.ref bn2), .val (.int 5)]) rfl ?_
    refine XS.goto Xo66.here hx rfl (pc0 := 72) (pc' := 11) rfl (hb hby own_d1_72) (by decide) (by decide) ?_
    refine XS.iloadN Xo66.here hx rfl (hb hby own_d1_11) rfl ?_
    refine XS.aloadN Xo66.here hx rfl (hb hby own_d1_12) rfl rfl ?_
    refine Xo66.arraylength hx (by rw [eo66]; exact Aro69.1) (State.isArrayOf_alike hZ.alike Aro69.2.1) (g := (mkF m 13 #[.val (.ref r0), .val (.ref bn2), .val (.int 5)] [(.ref r0), (.int 5)])) rfl rfl (hb hby own_d1_13) _ ?_
    rw [len_of So69 No69]
    show Steps p.tables e below (To66.setTop (mkF m 14 #[.val (.ref r0), .val (.ref bn2), .val (.int 5)] [(.int 8), (.int 5)])) _
    refine XS.icmpNo Xo66.here hx rfl (hb hby own_d1_14) rfl (XT.ii_ge_f (by decide : (5 : Int32) < (8 : Int32))) ?_
    refine XS.iloadN Xo66.here hx rfl (hb hby own_d1_17) rfl ?_
    refine XS.iconst Xo66.here hx rfl (hb hby own_d1_18) ?_
    refine XS.irem Xo66.here hx rfl (hb hby own_d1_19) rfl (by decide) ?_
    show Steps p.tables e below (To66.setTop (mkF m 20 #[.val (.ref r0), .val (.ref bn2), .val (.int 5)] [(.int 1)])) _
    refine XS.ifYes Xo66.here hx rfl (pc0 := 20) (pc' := 37) rfl (hb hby own_d1_20) rfl (XT.i0_ne_t (by decide : ¬ ((1 : Int32) = (0 : Int32)))) (by decide) (by decide) ?_
    refine XS.aloadN Xo66.here hx rfl (hb hby own_d1_37) rfl rfl ?_
    refine XS.iloadN Xo66.here hx rfl (hb hby own_d1_38) rfl ?_
    refine XS.iconst Xo66.here hx rfl (hb hby own_d1_39) ?_
    refine XS.idiv Xo66.here hx rfl (hb hby own_d1_40) rfl (by decide) ?_
    show Steps p.tables e below (To66.setTop (mkF m 41 #[.val (.ref r0), .val (.ref bn2), .val (.int 5)] [(.int 2), (.ref bn2)])) _
    refine XT.dup2 Xo66.here hx rfl (hb hby own_d1_41) rfl rfl rfl ?_
    refine Xo66.daload hx (j := (2 : Int32)) (v := (.double (own_vh8_5 x_r0_3 x_r0_4))) (by rw [eo66]; exact Aro70.1) (State.isArrayOf_alike hZ.alike Aro70.2.1) Aro70.2.2 hi71 ha72 (g := (mkF m 42 #[.val (.ref r0), .val (.ref bn2), .val (.int 5)] [(.int 2), (.ref bn2), (.int 2), (.ref bn2)])) rfl rfl (hb hby own_d1_42) _ ?_
    refine XS.aloadN Xo66.here hx rfl (hb hby own_d1_43) rfl rfl ?_
    refine XS.iloadN Xo66.here hx rfl (hb hby own_d1_44) rfl ?_
    refine Xo66.daload hx (j := (5 : Int32)) (v := (.double x_r0_5)) (by rw [eo66]; exact Aro69.1) (State.isArrayOf_alike hZ.alike Aro69.2.1) Aro69.2.2 hi73 ha74 (g := (mkF m 45 #[.val (.ref r0), .val (.ref bn2), .val (.int 5)] [(.int 5), (.ref r0), (.double (own_vh8_5 x_r0_3 x_r0_4)), (.int 2), (.ref bn2)])) rfl rfl (hb hby own_d1_45) _ ?_
    show Steps p.tables e below (To66.setTop (mkF m 46 #[.val (.ref r0), .val (.ref bn2), .val (.int 5)] [(.double x_r0_5), (.double (own_vh8_5 x_r0_3 x_r0_4)), (.int 2), (.ref bn2)])) _
    refine Xo66.ldc2DoubleC hx hown (mvT hZ (own_W hw 14 rfl)) (g := (mkF m 46 #[.val (.ref r0), .val (.ref bn2), .val (.int 5)] [(.double x_r0_5), (.double (own_vh8_5 x_r0_3 x_r0_4)), (.int 2), (.ref bn2)])) rfl (hb hby own_d1_46) _ ?_
    refine XS.ddivS Xo66.here hx rfl (hb hby own_d1_49) rfl nn49_3 rfl ?_
    refine XS.daddS Xo66.here hx rfl (hb hby own_d1_50) rfl nn50_3 rfl ?_
    refine sto75 _ ?_
    show Steps p.tables e below (To75.setTop (mkF m 52 #[.val (.ref r0), .val (.ref bn2), .val (.int 5)] [])) _
    refine XS.aloadN Xo75.here hx rfl (hb hby own_d1_52) rfl rfl ?_
    refine XS.iloadN Xo75.here hx rfl (hb hby own_d1_53) rfl ?_
    refine XS.iconst Xo75.here hx rfl (hb hby own_d1_54) ?_
    refine XS.idiv Xo75.here hx rfl (hb hby own_d1_55) rfl (by decide) ?_
    show Steps p.tables e below (To75.setTop (mkF m 56 #[.val (.ref r0), .val (.ref bn2), .val (.int 5)] [(.int 2), (.ref bn2)])) _
    refine XS.iconst Xo75.here hx rfl (hb hby own_d1_56) ?_
    refine XS.iadd Xo75.here hx rfl (hb hby own_d1_57) rfl ?_
    show Steps p.tables e below (To75.setTop (mkF m 58 #[.val (.ref r0), .val (.ref bn2), .val (.int 5)] [(.int 3), (.ref bn2)])) _
    refine XT.dup2 Xo75.here hx rfl (hb hby own_d1_58) rfl rfl rfl ?_
    refine Xo75.daload hx (j := (3 : Int32)) (v := (.double 0)) (by rw [eo75]; exact Aro77.1) (State.isArrayOf_alike hZ.alike Aro77.2.1) Aro77.2.2 hi78 ha79 (g := (mkF m 59 #[.val (.ref r0), .val (.ref bn2), .val (.int 5)] [(.int 3), (.ref bn2), (.int 3), (.ref bn2)])) rfl rfl (hb hby own_d1_59) _ ?_
    refine XS.aloadN Xo75.here hx rfl (hb hby own_d1_60) rfl rfl ?_
    refine XS.iloadN Xo75.here hx rfl (hb hby own_d1_61) rfl ?_
    refine Xo75.daload hx (j := (5 : Int32)) (v := (.double x_r0_5)) (by rw [eo75]; exact Aro81.1) (State.isArrayOf_alike hZ.alike Aro81.2.1) Aro81.2.2 hi82 ha83 (g := (mkF m 62 #[.val (.ref r0), .val (.ref bn2), .val (.int 5)] [(.int 5), (.ref r0), (.double 0), (.int 3), (.ref bn2)])) rfl rfl (hb hby own_d1_62) _ ?_
    show Steps p.tables e below (To75.setTop (mkF m 63 #[.val (.ref r0), .val (.ref bn2), .val (.int 5)] [(.double x_r0_5), (.double 0), (.int 3), (.ref bn2)])) _
    refine Xo75.ldc2DoubleC hx hown (mvT hZ (own_W hw 14 rfl)) (g := (mkF m 63 #[.val (.ref r0), .val (.ref bn2), .val (.int 5)] [(.double x_r0_5), (.double 0), (.int 3), (.ref bn2)])) rfl (hb hby own_d1_63) _ ?_
    refine XS.ddivS Xo75.here hx rfl (hb hby own_d1_66) rfl nn49_3 rfl ?_
    refine XS.daddS Xo75.here hx rfl (hb hby own_d1_67) rfl nn67_3 rfl ?_
    refine sto84 _ ?_
    show Steps p.tables e below (To84.setTop (mkF m 69 #[.val (.ref r0), .val (.ref bn2), .val (.int 5)] [])) _
    refine XS.iinc Xo84.here hx rfl (hb hby own_d1_69) rfl (l' := #[.val (.ref r0), .val (.ref bn2), .val (.int 6)]) rfl ?_
    refine XS.goto Xo84.here hx rfl (pc0 := 72) (pc' := 11) rfl (hb hby own_d1_72) (by decide) (by decide) ?_
    refine XS.iloadN Xo84.here hx rfl (hb hby own_d1_11) rfl ?_
    refine XS.aloadN Xo84.here hx rfl (hb hby own_d1_12) rfl rfl ?_
    refine Xo84.arraylength hx (by rw [eo84]; exact Aro87.1) (State.isArrayOf_alike hZ.alike Aro87.2.1) (g := (mkF m 13 #[.val (.ref r0), .val (.ref bn2), .val (.int 6)] [(.ref r0), (.int 6)])) rfl rfl (hb hby own_d1_13) _ ?_
    rw [len_of So87 No87]
    show Steps p.tables e below (To84.setTop (mkF m 14 #[.val (.ref r0), .val (.ref bn2), .val (.int 6)] [(.int 8), (.int 6)])) _
    refine XS.icmpNo Xo84.here hx rfl (hb hby own_d1_14) rfl (XT.ii_ge_f (by decide : (6 : Int32) < (8 : Int32))) ?_
    refine XS.iloadN Xo84.here hx rfl (hb hby own_d1_17) rfl ?_
    refine XS.iconst Xo84.here hx rfl (hb hby own_d1_18) ?_
    refine XS.irem Xo84.here hx rfl (hb hby own_d1_19) rfl (by decide) ?_
    show Steps p.tables e below (To84.setTop (mkF m 20 #[.val (.ref r0), .val (.ref bn2), .val (.int 6)] [(.int 0)])) _
    refine XS.ifNo Xo84.here hx rfl (hb hby own_d1_20) rfl (XT.i0_ne_f (by decide : (0 : Int32) = (0 : Int32))) ?_
    refine XS.aloadN Xo84.here hx rfl (hb hby own_d1_23) rfl rfl ?_
    refine XS.iloadN Xo84.here hx rfl (hb hby own_d1_24) rfl ?_
    refine XS.iconst Xo84.here hx rfl (hb hby own_d1_25) ?_
    refine XS.idiv Xo84.here hx rfl (hb hby own_d1_26) rfl (by decide) ?_
    show Steps p.tables e below (To84.setTop (mkF m 27 #[.val (.ref r0), .val (.ref bn2), .val (.int 6)] [(.int 3), (.ref bn2)])) _
    refine XT.dup2 Xo84.here hx rfl (hb hby own_d1_27) rfl rfl rfl ?_
    refine Xo84.daload hx (j := (3 : Int32)) (v := (.double (own_vh8_7 x_r0_5))) (by rw [eo84]; exact Aro88.1) (State.isArrayOf_alike hZ.alike Aro88.2.1) Aro88.2.2 hi89 ha90 (g := (mkF m 28 #[.val (.ref r0), .val (.ref bn2), .val (.int 6)] [(.int 3), (.ref bn2), (.int 3), (.ref bn2)])) rfl rfl (hb hby own_d1_28) _ ?_
    refine XS.aloadN Xo84.here hx rfl (hb hby own_d1_29) rfl rfl ?_
    refine XS.iloadN Xo84.here hx rfl (hb hby own_d1_30) rfl ?_
    refine Xo84.daload hx (j := (6 : Int32)) (v := (.double x_r0_6)) (by rw [eo84]; exact Aro87.1) (State.isArrayOf_alike hZ.alike Aro87.2.1) Aro87.2.2 hi91 ha92 (g := (mkF m 31 #[.val (.ref r0), .val (.ref bn2), .val (.int 6)] [(.int 6), (.ref r0), (.double (own_vh8_7 x_r0_5)), (.int 3), (.ref bn2)])) rfl rfl (hb hby own_d1_31) _ ?_
    show Steps p.tables e below (To84.setTop (mkF m 32 #[.val (.ref r0), .val (.ref bn2), .val (.int 6)] [(.double x_r0_6), (.double (own_vh8_7 x_r0_5)), (.int 3), (.ref bn2)])) _
    refine XS.daddS Xo84.here hx rfl (hb hby own_d1_32) rfl nn32_4 rfl ?_
    refine sto93 _ ?_
    refine XS.goto Xo93.here hx rfl (pc0 := 34) (pc' := 69) rfl (hb hby own_d1_34) (by decide) (by decide) ?_
    refine XS.iinc Xo93.here hx rfl (hb hby own_d1_69) rfl (l' := #[.val (.ref r0), .val (.ref bn2), .val (.int 7)]) rfl ?_
    refine XS.goto Xo93.here hx rfl (pc0 := 72) (pc' := 11) rfl (hb hby own_d1_72) (by decide) (by decide) ?_
    refine XS.iloadN Xo93.here hx rfl (hb hby own_d1_11) rfl ?_
    refine XS.aloadN Xo93.here hx rfl (hb hby own_d1_12) rfl rfl ?_
    refine Xo93.arraylength hx (by rw [eo93]; exact Aro96.1) (State.isArrayOf_alike hZ.alike Aro96.2.1) (g := (mkF m 13 #[.val (.ref r0), .val (.ref bn2), .val (.int 7)] [(.ref r0), (.int 7)])) rfl rfl (hb hby own_d1_13) _ ?_
    rw [len_of So96 No96]
    show Steps p.tables e below (To93.setTop (mkF m 14 #[.val (.ref r0), .val (.ref bn2), .val (.int 7)] [(.int 8), (.int 7)])) _
    refine XS.icmpNo Xo93.here hx rfl (hb hby own_d1_14) rfl (XT.ii_ge_f (by decide : (7 : Int32) < (8 : Int32))) ?_
    refine XS.iloadN Xo93.here hx rfl (hb hby own_d1_17) rfl ?_
    refine XS.iconst Xo93.here hx rfl (hb hby own_d1_18) ?_
    refine XS.irem Xo93.here hx rfl (hb hby own_d1_19) rfl (by decide) ?_
    show Steps p.tables e below (To93.setTop (mkF m 20 #[.val (.ref r0), .val (.ref bn2), .val (.int 7)] [(.int 1)])) _
    refine XS.ifYes Xo93.here hx rfl (pc0 := 20) (pc' := 37) rfl (hb hby own_d1_20) rfl (XT.i0_ne_t (by decide : ¬ ((1 : Int32) = (0 : Int32)))) (by decide) (by decide) ?_
    refine XS.aloadN Xo93.here hx rfl (hb hby own_d1_37) rfl rfl ?_
    refine XS.iloadN Xo93.here hx rfl (hb hby own_d1_38) rfl ?_
    refine XS.iconst Xo93.here hx rfl (hb hby own_d1_39) ?_
    refine XS.idiv Xo93.here hx rfl (hb hby own_d1_40) rfl (by decide) ?_
    show Steps p.tables e below (To93.setTop (mkF m 41 #[.val (.ref r0), .val (.ref bn2), .val (.int 7)] [(.int 3), (.ref bn2)])) _
    refine XT.dup2 Xo93.here hx rfl (hb hby own_d1_41) rfl rfl rfl ?_
    refine Xo93.daload hx (j := (3 : Int32)) (v := (.double (own_vh8_8 x_r0_5 x_r0_6))) (by rw [eo93]; exact Aro97.1) (State.isArrayOf_alike hZ.alike Aro97.2.1) Aro97.2.2 hi98 ha99 (g := (mkF m 42 #[.val (.ref r0), .val (.ref bn2), .val (.int 7)] [(.int 3), (.ref bn2), (.int 3), (.ref bn2)])) rfl rfl (hb hby own_d1_42) _ ?_
    refine XS.aloadN Xo93.here hx rfl (hb hby own_d1_43) rfl rfl ?_
    refine XS.iloadN Xo93.here hx rfl (hb hby own_d1_44) rfl ?_
    refine Xo93.daload hx (j := (7 : Int32)) (v := (.double x_r0_7)) (by rw [eo93]; exact Aro96.1) (State.isArrayOf_alike hZ.alike Aro96.2.1) Aro96.2.2 hi100 ha101 (g := (mkF m 45 #[.val (.ref r0), .val (.ref bn2), .val (.int 7)] [(.int 7), (.ref r0), (.double (own_vh8_8 x_r0_5 x_r0_6)), (.int 3), (.ref bn2)])) rfl rfl (hb hby own_d1_45) _ ?_
    show Steps p.tables e below (To93.setTop (mkF m 46 #[.val (.ref r0), .val (.ref bn2), .val (.int 7)] [(.double x_r0_7), (.double (own_vh8_8 x_r0_5 x_r0_6)), (.int 3), (.ref bn2)])) _
    refine Xo93.ldc2DoubleC hx hown (mvT hZ (own_W hw 14 rfl)) (g := (mkF m 46 #[.val (.ref r0), .val (.ref bn2), .val (.int 7)] [(.double x_r0_7), (.double (own_vh8_8 x_r0_5 x_r0_6)), (.int 3), (.ref bn2)])) rfl (hb hby own_d1_46) _ ?_
    refine XS.ddivS Xo93.here hx rfl (hb hby own_d1_49) rfl nn49_4 rfl ?_
    refine XS.daddS Xo93.here hx rfl (hb hby own_d1_50) rfl nn50_4 rfl ?_
    refine sto102 _ ?_
    show Steps p.tables e below (To102.setTop (mkF m 52 #[.val (.ref r0), .val (.ref bn2), .val (.int 7)] [])) _
    refine XS.aloadN Xo102.here hx rfl (hb hby own_d1_52) rfl rfl ?_
    refine XS.iloadN Xo102.here hx rfl (hb hby own_d1_53) rfl ?_
    refine XS.iconst Xo102.here hx rfl (hb hby own_d1_54) ?_
    refine XS.idiv Xo102.here hx rfl (hb hby own_d1_55) rfl (by decide) ?_
    show Steps p.tables e below (To102.setTop (mkF m 56 #[.val (.ref r0), .val (.ref bn2), .val (.int 7)] [(.int 3), (.ref bn2)])) _
    refine XS.iconst Xo102.here hx rfl (hb hby own_d1_56) ?_
    refine XS.iadd Xo102.here hx rfl (hb hby own_d1_57) rfl ?_
    show Steps p.tables e below (To102.setTop (mkF m 58 #[.val (.ref r0), .val (.ref bn2), .val (.int 7)] [(.int 4), (.ref bn2)])) _
    refine XT.dup2 Xo102.here hx rfl (hb hby own_d1_58) rfl rfl rfl ?_
    refine Xo102.daload hx (j := (4 : Int32)) (v := (.double 0)) (by rw [eo102]; exact Aro104.1) (State.isArrayOf_alike hZ.alike Aro104.2.1) Aro104.2.2 hi105 ha106 (g := (mkF m 59 #[.val (.ref r0), .val (.ref bn2), .val (.int 7)] [(.int 4), (.ref bn2), (.int 4), (.ref bn2)])) rfl rfl (hb hby own_d1_59) _ ?_
    refine XS.aloadN Xo102.here hx rfl (hb hby own_d1_60) rfl rfl ?_
    refine XS.iloadN Xo102.here hx rfl (hb hby own_d1_61) rfl ?_
    refine Xo102.daload hx (j := (7 : Int32)) (v := (.double x_r0_7)) (by rw [eo102]; exact Aro108.1) (State.isArrayOf_alike hZ.alike Aro108.2.1) Aro108.2.2 hi109 ha110 (g := (mkF m 62 #[.val (.ref r0), .val (.ref bn2), .val (.int 7)] [(.int 7), (.ref r0), (.double 0), (.int 4), (.ref bn2)])) rfl rfl (hb hby own_d1_62) _ ?_
    show Steps p.tables e below (To102.setTop (mkF m 63 #[.val (.ref r0), .val (.ref bn2), .val (.int 7)] [(.double x_r0_7), (.double 0), (.int 4), (.ref bn2)])) _
    refine Xo102.ldc2DoubleC hx hown (mvT hZ (own_W hw 14 rfl)) (g := (mkF m 63 #[.val (.ref r0), .val (.ref bn2), .val (.int 7)] [(.double x_r0_7), (.double 0), (.int 4), (.ref bn2)])) rfl (hb hby own_d1_63) _ ?_
    refine XS.ddivS Xo102.here hx rfl (hb hby own_d1_66) rfl nn49_4 rfl ?_
    refine XS.daddS Xo102.here hx rfl (hb hby own_d1_67) rfl nn67_4 rfl ?_
    refine sto111 _ ?_
    show Steps p.tables e below (To111.setTop (mkF m 69 #[.val (.ref r0), .val (.ref bn2), .val (.int 7)] [])) _
    refine XS.iinc Xo111.here hx rfl (hb hby own_d1_69) rfl (l' := #[.val (.ref r0), .val (.ref bn2), .val (.int 8)]) rfl ?_
    refine XS.goto Xo111.here hx rfl (pc0 := 72) (pc' := 11) rfl (hb hby own_d1_72) (by decide) (by decide) ?_
    refine XS.iloadN Xo111.here hx rfl (hb hby own_d1_11) rfl ?_
    refine XS.aloadN Xo111.here hx rfl (hb hby own_d1_12) rfl rfl ?_
    refine Xo111.arraylength hx (by rw [eo111]; exact Aro114.1) (State.isArrayOf_alike hZ.alike Aro114.2.1) (g := (mkF m 13 #[.val (.ref r0), .val (.ref bn2), .val (.int 8)] [(.ref r0), (.int 8)])) rfl rfl (hb hby own_d1_13) _ ?_
    rw [len_of So114 No114]
    show Steps p.tables e below (To111.setTop (mkF m 14 #[.val (.ref r0), .val (.ref bn2), .val (.int 8)] [(.int 8), (.int 8)])) _
    refine XS.icmpYes Xo111.here hx rfl (pc0 := 14) (pc' := 75) rfl (hb hby own_d1_14) rfl (XT.ii_ge_t (by decide : ¬ ((8 : Int32) < (8 : Int32)))) (by decide) (by decide) ?_
    refine XS.aloadN Xo111.here hx rfl (hb hby own_d1_75) rfl rfl ?_
    show Steps p.tables e below (To111.setTop (mkF m 76 #[.val (.ref r0), .val (.ref bn2), .val (.int 8)] [(.ref bn2)])) _
    jvm_step Xo111.here [Xo111.here.top, hx, (hb hby own_d1_76), Xo111.method', Bd.returns, Value.isRef, FieldType.isReference]
    first | (intro acts; rw [hr _ acts rfl rfl rfl]) | rw [hr _ _ rfl rfl rfl]
    exact Steps.refl _
  · show own_Qh8 Z r0 k_r0 x_r0_0 x_r0_1 x_r0_2 x_r0_3 x_r0_4 x_r0_5 x_r0_6 x_r0_7 h0 n0 _ To111.heap _
    rw [eo111]
    exact ⟨bn2, kn2, rfl, Nfo111, ((((((((((((((Keep.refl h0 []).ext En2).wr Wo11 (Or.inr sz_bn2)).wr Wo21 (Or.inr sz_bn2)).wr Wo30 (Or.inr sz_bn2)).wr Wo39 (Or.inr sz_bn2)).wr Wo48 (Or.inr sz_bn2)).wr Wo57 (Or.inr sz_bn2)).wr Wo66 (Or.inr sz_bn2)).wr Wo75 (Or.inr sz_bn2)).wr Wo84 (Or.inr sz_bn2)).wr Wo93 (Or.inr sz_bn2)).wr Wo102 (Or.inr sz_bn2)).wr Wo111 (Or.inr sz_bn2)), sz_bn2, Vwo111⟩
theorem own_n9 (x : Int32) : 0 ≤ ((x &&& (2147483647 : Int32)) - ((x &&& (2147483647 : Int32)) / (9 : Int32)) * (9 : Int32)).toInt ∧ ((x &&& (2147483647 : Int32)) - ((x &&& (2147483647 : Int32)) / (9 : Int32)) * (9 : Int32)).toInt < 9 := by
  have ha : (x &&& (2147483647 : Int32)).toInt = x.toInt % 2 ^ 31 := Jvm.Kit.i32_mask _ _ (k := 31) (by decide) (by decide)
  generalize (x &&& (2147483647 : Int32)) = a at *
  have h7 : (9 : Int32).toInt = 9 := by decide
  have hd : (a / (9 : Int32)).toInt = a.toInt / 9 := by
    rw [Jvm.Kit.i32_div (by intro h; exact absurd h.2 (by decide)), h7, Int.tdiv_eq_ediv_of_nonneg (by omega)]
  have hm : (a / (9 : Int32) * (9 : Int32)).toInt = a.toInt / 9 * 9 := by
    rw [Jvm.Kit.i32_mul (by rw [hd, h7]; omega) (by rw [hd, h7]; omega), hd, h7]
  rw [Jvm.Kit.i32_sub (by rw [hm]; omega) (by rw [hm]; omega), hm]
  omega
theorem own_cases (x : Int32) : (x &&& (2147483647 : Int32)) - ((x &&& (2147483647 : Int32)) / (9 : Int32)) * (9 : Int32) = 0 ∨ (x &&& (2147483647 : Int32)) - ((x &&& (2147483647 : Int32)) / (9 : Int32)) * (9 : Int32) = 1 ∨ (x &&& (2147483647 : Int32)) - ((x &&& (2147483647 : Int32)) / (9 : Int32)) * (9 : Int32) = 2 ∨ (x &&& (2147483647 : Int32)) - ((x &&& (2147483647 : Int32)) / (9 : Int32)) * (9 : Int32) = 3 ∨ (x &&& (2147483647 : Int32)) - ((x &&& (2147483647 : Int32)) / (9 : Int32)) * (9 : Int32) = 4 ∨ (x &&& (2147483647 : Int32)) - ((x &&& (2147483647 : Int32)) / (9 : Int32)) * (9 : Int32) = 5 ∨ (x &&& (2147483647 : Int32)) - ((x &&& (2147483647 : Int32)) / (9 : Int32)) * (9 : Int32) = 6 ∨ (x &&& (2147483647 : Int32)) - ((x &&& (2147483647 : Int32)) / (9 : Int32)) * (9 : Int32) = 7 ∨ (x &&& (2147483647 : Int32)) - ((x &&& (2147483647 : Int32)) / (9 : Int32)) * (9 : Int32) = 8 := by
  have h := own_n9 x
  generalize (x &&& (2147483647 : Int32)) - ((x &&& (2147483647 : Int32)) / (9 : Int32)) * (9 : Int32) = y at *
  simp only [← Int32.toInt_inj]
  have e : (0 : Int32).toInt = 0 ∧ (1 : Int32).toInt = 1 ∧ (2 : Int32).toInt = 2 ∧ (3 : Int32).toInt = 3 ∧ (4 : Int32).toInt = 4 ∧ (5 : Int32).toInt = 5 ∧ (6 : Int32).toInt = 6 ∧ (7 : Int32).toInt = 7 ∧ (8 : Int32).toInt = 8 := by decide
  obtain ⟨e0, e1, e2, e3, e4, e5, e6, e7, e8⟩ := e
  rw [e0, e1, e2, e3, e4, e5, e6, e7, e8]
  omega
theorem own_pd1 : parseMethodDescriptor "([D)[D" = some ⟨[(.array .double)], some (.array .double)⟩ := by decide +kernel
def own_v0_0 (p0 : Int32) : Int32 := ((p0 &&& (2147483647 : Int32)) - ((p0 &&& (2147483647 : Int32)) / (9 : Int32)) * (9 : Int32))
def own_v0_1 (q1 : Int64) : UInt64 := (FP.i2d (XT.ushrL q1 (32 : Int32)).toInt32)
def own_v0_2 (q2 : Int64) : UInt64 := (FP.i2d (XT.ushrL q2 (32 : Int32)).toInt32)
def own_v0_3 (q3 : Int64) : UInt64 := (FP.i2d (XT.ushrL q3 (32 : Int32)).toInt32)
def own_v0_4 (q4 : Int64) : UInt64 := (FP.i2d (XT.ushrL q4 (32 : Int32)).toInt32)
theorem own_ef0 (m : MethodId) (p0 : Int32) (q1 : Int64) (q2 : Int64) (q3 : Int64) (q4 : Int64) : entryFrame m #[(.int p0), (.long q1), (.long q2), (.long q3), (.long q4)] maxLocals = mkF m 0 #[.val (.int p0), .val (.long q1), .second, .val (.long q2), .second, .val (.long q3), .second, .val (.long q4), .second, .unset, .unset, .unset, .unset, .unset] [] := by first | (simp [entryFrame, mkF, argsToLocals, Value.category, maxLocals]; done) | rfl
def own_Q0 (Z : State) (p0 : Int32) (q1 : Int64) (q2 : Int64) (q3 : Int64) (q4 : Int64) (h0 : Heap) (n0 : Nat) (v : Option Value) (h : Heap) (L : List Loc) : Prop := v = some (.int 1) ∧ Fr n0 L
set_option maxRecDepth 65536 in
set_option maxHeartbeats 40000000 in
theorem own_rm0 (l : Launch) (Z : State) (a0 : Array Value) (hw : ∀ d ∈ tables_1, d.before a0 Z = true) (ws : List Jvm.Cond) (p0 : Int32) (q1 : Int64) (q2 : Int64) (q3 : Int64) (q4 : Int64) (h0 : Heap) (n0 : Nat) (Z0 : n0 ≤ h0.size) (c242_nn13 : (own_v0_0 p0) = (0 : Int32) → NoNaN64 (FP.ddiv (0 : UInt64) (4611686018427387904 : UInt64))) (c242_nn22 : (own_v0_0 p0) = (0 : Int32) → NoNaN64 (FP.dadd (FP.ddiv (0 : UInt64) (4611686018427387904 : UInt64)) (0 : UInt64))) (c242_nn37 : (own_v0_0 p0) = (0 : Int32) → NoNaN64 (FP.dadd (FP.dadd (FP.ddiv (0 : UInt64) (4611686018427387904 : UInt64)) (0 : UInt64)) (FP.ddiv (0 : UInt64) (4611686018427387904 : UInt64)))) (hc246 : (own_v0_0 p0) = (0 : Int32) → (cmpValue (FP.dcmp (0 : UInt64) own_rex00_0) .l) = (0 : Int32)) (c214_nn32 : (own_v0_0 p0) = (1 : Int32) → NoNaN64 (FP.dadd (0 : UInt64) (FP.i2d q1.toInt32))) (c242_nn13_2 : (own_v0_0 p0) = (1 : Int32) → NoNaN64 (FP.ddiv (0 : UInt64) (4611686018427387904 : UInt64))) (c242_nn22_2 : (own_v0_0 p0) = (1 : Int32) → NoNaN64 (FP.dadd (FP.ddiv (0 : UInt64) (4611686018427387904 : UInt64)) (FP.i2d q1.toInt32))) (c242_nn37_2 : (own_v0_0 p0) = (1 : Int32) → NoNaN64 (FP.dadd (FP.dadd (FP.ddiv (0 : UInt64) (4611686018427387904 : UInt64)) (FP.i2d q1.toInt32)) (FP.ddiv (0 : UInt64) (4611686018427387904 : UInt64)))) (hc246_2 : (own_v0_0 p0) = (1 : Int32) → (cmpValue (FP.dcmp (FP.dadd (0 : UInt64) (FP.i2d q1.toInt32)) (own_rex01_0 (FP.i2d q1.toInt32))) .l) = (0 : Int32)) (c214_nn32_2 : (own_v0_0 p0) = (2 : Int32) → NoNaN64 (FP.dadd (0 : UInt64) (FP.i2d q1.toInt32))) (c214_nn49 : (own_v0_0 p0) = (2 : Int32) → NoNaN64 (FP.ddiv (own_v0_1 q1) (4611686018427387904 : UInt64))) (c214_nn50 : (own_v0_0 p0) = (2 : Int32) → NoNaN64 (FP.dadd (FP.dadd (0 : UInt64) (FP.i2d q1.toInt32)) (FP.ddiv (own_v0_1 q1) (4611686018427387904 : UInt64)))) (c214_nn67 : (own_v0_0 p0) = (2 : Int32) → NoNaN64 (FP.dadd (0 : UInt64) (FP.ddiv (own_v0_1 q1) (4611686018427387904 : UInt64)))) (c242_nn13_3 : (own_v0_0 p0) = (2 : Int32) → NoNaN64 (FP.ddiv (0 : UInt64) (4611686018427387904 : UInt64))) (c242_nn22_3 : (own_v0_0 p0) = (2 : Int32) → NoNaN64 (FP.dadd (FP.ddiv (0 : UInt64) (4611686018427387904 : UInt64)) (FP.i2d q1.toInt32))) (c242_nn37_3 : (own_v0_0 p0) = (2 : Int32) → NoNaN64 (FP.dadd (FP.dadd (FP.ddiv (0 : UInt64) (4611686018427387904 : UInt64)) (FP.i2d q1.toInt32)) (FP.ddiv (own_v0_1 q1) (4611686018427387904 : UInt64)))) (hc246_3 : (own_v0_0 p0) = (2 : Int32) → (cmpValue (FP.dcmp (own_vh2_0 (FP.i2d q1.toInt32) (own_v0_1 q1)) (own_rex02_0 (FP.i2d q1.toInt32) (own_v0_1 q1))) .l) = (0 : Int32)) (c277_nn22 : (own_v0_0 p0) = (2 : Int32) → NoNaN64 (FP.dadd (FP.ddiv (own_v0_1 q1) (4611686018427387904 : UInt64)) (0 : UInt64))) (c277_nn37 : (own_v0_0 p0) = (2 : Int32) → NoNaN64 (FP.dadd (FP.dadd (FP.ddiv (own_v0_1 q1) (4611686018427387904 : UInt64)) (0 : UInt64)) (FP.ddiv (0 : UInt64) (4611686018427387904 : UInt64)))) (hc281 : (own_v0_0 p0) = (2 : Int32) → (cmpValue (FP.dcmp (own_vh2_1 (own_v0_1 q1)) (own_rex12_0 (own_v0_1 q1))) .l) = (0 : Int32)) (c214_nn32_3 : (own_v0_0 p0) = (3 : Int32) → NoNaN64 (FP.dadd (0 : UInt64) (FP.i2d q1.toInt32))) (c214_nn49_2 : (own_v0_0 p0) = (3 : Int32) → NoNaN64 (FP.ddiv (own_v0_1 q1) (4611686018427387904 : UInt64))) (c214_nn50_2 : (own_v0_0 p0) = (3 : Int32) → NoNaN64 (FP.dadd (FP.dadd (0 : UInt64) (FP.i2d q1.toInt32)) (FP.ddiv (own_v0_1 q1) (4611686018427387904 : UInt64)))) (c214_nn67_2 : (own_v0_0 p0) = (3 : Int32) → NoNaN64 (FP.dadd (0 : UInt64) (FP.ddiv (own_v0_1 q1) (4611686018427387904 : UInt64)))) (c214_nn32_2_2 : (own_v0_0 p0) = (3 : Int32) → NoNaN64 (FP.dadd (own_vh3_1 (own_v0_1 q1)) (FP.i2d q2.toInt32))) (c242_nn13_4 : (own_v0_0 p0) = (3 : Int32) → NoNaN64 (FP.ddiv (0 : UInt64) (4611686018427387904 : UInt64))) (c242_nn22_4 : (own_v0_0 p0) = (3 : Int32) → NoNaN64 (FP.dadd (FP.ddiv (0 : UInt64) (4611686018427387904 : UInt64)) (FP.i2d q1.toInt32))) (c242_nn37_4 : (own_v0_0 p0) = (3 : Int32) → NoNaN64 (FP.dadd (FP.dadd (FP.ddiv (0 : UInt64) (4611686018427387904 : UInt64)) (FP.i2d q1.toInt32)) (FP.ddiv (own_v0_1 q1) (4611686018427387904 : UInt64)))) (hc246_4 : (own_v0_0 p0) = (3 : Int32) → (cmpValue (FP.dcmp (own_vh3_0 (FP.i2d q1.toInt32) (own_v0_1 q1)) (own_rex02_0 (FP.i2d q1.toInt32) (own_v0_1 q1))) .l) = (0 : Int32)) (c277_nn22_2 : (own_v0_0 p0) = (3 : Int32) → NoNaN64 (FP.dadd (FP.ddiv (own_v0_1 q1) (4611686018427387904 : UInt64)) (FP.i2d q2.toInt32))) (c277_nn37_2 : (own_v0_0 p0) = (3 : Int32) → NoNaN64 (FP.dadd (FP.dadd (FP.ddiv (own_v0_1 q1) (4611686018427387904 : UInt64)) (FP.i2d q2.toInt32)) (FP.ddiv (0 : UInt64) (4611686018427387904 : UInt64)))) (hc281_2 : (own_v0_0 p0) = (3 : Int32) → (cmpValue (FP.dcmp (own_vh3_2 (own_v0_1 q1) (FP.i2d q2.toInt32)) (own_rex13_0 (own_v0_1 q1) (FP.i2d q2.toInt32))) .l) = (0 : Int32)) (c214_nn32_4 : (own_v0_0 p0) = (4 : Int32) → NoNaN64 (FP.dadd (0 : UInt64) (FP.i2d q1.toInt32))) (c214_nn49_3 : (own_v0_0 p0) = (4 : Int32) → NoNaN64 (FP.ddiv (own_v0_1 q1) (4611686018427387904 : UInt64))) (c214_nn50_3 : (own_v0_0 p0) = (4 : Int32) → NoNaN64 (FP.dadd (FP.dadd (0 : UInt64) (FP.i2d q1.toInt32)) (FP.ddiv (own_v0_1 q1) (4611686018427387904 : UInt64)))) (c214_nn67_3 : (own_v0_0 p0) = (4 : Int32) → NoNaN64 (FP.dadd (0 : UInt64) (FP.ddiv (own_v0_1 q1) (4611686018427387904 : UInt64)))) (c214_nn32_2_3 : (own_v0_0 p0) = (4 : Int32) → NoNaN64 (FP.dadd (own_vh4_1 (own_v0_1 q1)) (FP.i2d q2.toInt32))) (c214_nn49_2_2 : (own_v0_0 p0) = (4 : Int32) → NoNaN64 (FP.ddiv (own_v0_2 q2) (4611686018427387904 : UInt64))) (c214_nn50_2_2 : (own_v0_0 p0) = (4 : Int32) → NoNaN64 (FP.dadd (own_vh4_2 (own_v0_1 q1) (FP.i2d q2.toInt32)) (FP.ddiv (own_v0_2 q2) (4611686018427387904 : UInt64)))) (c214_nn67_2_2 : (own_v0_0 p0) = (4 : Int32) → NoNaN64 (FP.dadd (0 : UInt64) (FP.ddiv (own_v0_2 q2) (4611686018427387904 : UInt64)))) (c242_nn13_5 : (own_v0_0 p0) = (4 : Int32) → NoNaN64 (FP.ddiv (0 : UInt64) (4611686018427387904 : UInt64))) (c242_nn22_5 : (own_v0_0 p0) = (4 : Int32) → NoNaN64 (FP.dadd (FP.ddiv (0 : UInt64) (4611686018427387904 : UInt64)) (FP.i2d q1.toInt32))) (c242_nn37_5 : (own_v0_0 p0) = (4 : Int32) → NoNaN64 (FP.dadd (FP.dadd (FP.ddiv (0 : UInt64) (4611686018427387904 : UInt64)) (FP.i2d q1.toInt32)) (FP.ddiv (own_v0_1 q1) (4611686018427387904 : UInt64)))) (hc246_5 : (own_v0_0 p0) = (4 : Int32) → (cmpValue (FP.dcmp (own_vh4_0 (FP.i2d q1.toInt32) (own_v0_1 q1)) (own_rex02_0 (FP.i2d q1.toInt32) (own_v0_1 q1))) .l) = (0 : Int32)) (c277_nn22_3 : (own_v0_0 p0) = (4 : Int32) → NoNaN64 (FP.dadd (FP.ddiv (own_v0_1 q1) (4611686018427387904 : UInt64)) (FP.i2d q2.toInt32))) (c277_nn37_3 : (own_v0_0 p0) = (4 : Int32) → NoNaN64 (FP.dadd (FP.dadd (FP.ddiv (own_v0_1 q1) (4611686018427387904 : UInt64)) (FP.i2d q2.toInt32)) (FP.ddiv (own_v0_2 q2) (4611686018427387904 : UInt64)))) (hc281_3 : (own_v0_0 p0) = (4 : Int32) → (cmpValue (FP.dcmp (own_vh4_3 (own_v0_1 q1) (FP.i2d q2.toInt32) (own_v0_2 q2)) (own_rex14_0 (own_v0_1 q1) (FP.i2d q2.toInt32) (own_v0_2 q2))) .l) = (0 : Int32)) (c312_nn22 : (own_v0_0 p0) = (4 : Int32) → NoNaN64 (FP.dadd (FP.ddiv (own_v0_2 q2) (4611686018427387904 : UInt64)) (0 : UInt64))) (c312_nn37 : (own_v0_0 p0) = (4 : Int32) → NoNaN64 (FP.dadd (FP.dadd (FP.ddiv (own_v0_2 q2) (4611686018427387904 : UInt64)) (0 : UInt64)) (FP.ddiv (0 : UInt64) (4611686018427387904 : UInt64)))) (hc316 : (own_v0_0 p0) = (4 : Int32) → (cmpValue (FP.dcmp (own_vh4_4 (own_v0_2 q2)) (own_rex24_0 (own_v0_2 q2))) .l) = (0 : Int32)) (c214_nn32_5 : (own_v0_0 p0) = (5 : Int32) → NoNaN64 (FP.dadd (0 : UInt64) (FP.i2d q1.toInt32))) (c214_nn49_4 : (own_v0_0 p0) = (5 : Int32) → NoNaN64 (FP.ddiv (own_v0_1 q1) (4611686018427387904 : UInt64))) (c214_nn50_4 : (own_v0_0 p0) = (5 : Int32) → NoNaN64 (FP.dadd (FP.dadd (0 : UInt64) (FP.i2d q1.toInt32)) (FP.ddiv (own_v0_1 q1) (4611686018427387904 : UInt64)))) (c214_nn67_4 : (own_v0_0 p0) = (5 : Int32) → NoNaN64 (FP.dadd (0 : UInt64) (FP.ddiv (own_v0_1 q1) (4611686018427387904 : UInt64)))) (c214_nn32_2_4 : (own_v0_0 p0) = (5 : Int32) → NoNaN64 (FP.dadd (own_vh5_1 (own_v0_1 q1)) (FP.i2d q2.toInt32))) (c214_nn49_2_3 : (own_v0_0 p0) = (5 : Int32) → NoNaN64 (FP.ddiv (own_v0_2 q2) (4611686018427387904 : UInt64))) (c214_nn50_2_3 : (own_v0_0 p0) = (5 : Int32) → NoNaN64 (FP.dadd (own_vh5_2 (own_v0_1 q1) (FP.i2d q2.toInt32)) (FP.ddiv (own_v0_2 q2) (4611686018427387904 : UInt64)))) (c214_nn67_2_3 : (own_v0_0 p0) = (5 : Int32) → NoNaN64 (FP.dadd (0 : UInt64) (FP.ddiv (own_v0_2 q2) (4611686018427387904 : UInt64)))) (c214_nn32_3_2 : (own_v0_0 p0) = (5 : Int32) → NoNaN64 (FP.dadd (own_vh5_4 (own_v0_2 q2)) (FP.i2d q3.toInt32))) (c242_nn13_6 : (own_v0_0 p0) = (5 : Int32) → NoNaN64 (FP.ddiv (0 : UInt64) (4611686018427387904 : UInt64))) (c242_nn22_6 : (own_v0_0 p0) = (5 : Int32) → NoNaN64 (FP.dadd (FP.ddiv (0 : UInt64) (4611686018427387904 : UInt64)) (FP.i2d q1.toInt32))) (c242_nn37_6 : (own_v0_0 p0) = (5 : Int32) → NoNaN64 (FP.dadd (FP.dadd (FP.ddiv (0 : UInt64) (4611686018427387904 : UInt64)) (FP.i2d q1.toInt32)) (FP.ddiv (own_v0_1 q1) (4611686018427387904 : UInt64)))) (hc246_6 : (own_v0_0 p0) = (5 : Int32) → (cmpValue (FP.dcmp (own_vh5_0 (FP.i2d q1.toInt32) (own_v0_1 q1)) (own_rex02_0 (FP.i2d q1.toInt32) (own_v0_1 q1))) .l) = (0 : Int32)) (c277_nn22_4 : (own_v0_0 p0) = (5 : Int32) → NoNaN64 (FP.dadd (FP.ddiv (own_v0_1 q1) (4611686018427387904 : UInt64)) (FP.i2d q2.toInt32))) (c277_nn37_4 : (own_v0_0 p0) = (5 : Int32) → NoNaN64 (FP.dadd (FP.dadd (FP.ddiv (own_v0_1 q1) (4611686018427387904 : UInt64)) (FP.i2d q2.toInt32)) (FP.ddiv (own_v0_2 q2) (4611686018427387904 : UInt64)))) (hc281_4 : (own_v0_0 p0) = (5 : Int32) → (cmpValue (FP.dcmp (own_vh5_3 (own_v0_1 q1) (FP.i2d q2.toInt32) (own_v0_2 q2)) (own_rex14_0 (own_v0_1 q1) (FP.i2d q2.toInt32) (own_v0_2 q2))) .l) = (0 : Int32)) (c312_nn22_2 : (own_v0_0 p0) = (5 : Int32) → NoNaN64 (FP.dadd (FP.ddiv (own_v0_2 q2) (4611686018427387904 : UInt64)) (FP.i2d q3.toInt32))) (c312_nn37_2 : (own_v0_0 p0) = (5 : Int32) → NoNaN64 (FP.dadd (FP.dadd (FP.ddiv (own_v0_2 q2) (4611686018427387904 : UInt64)) (FP.i2d q3.toInt32)) (FP.ddiv (0 : UInt64) (4611686018427387904 : UInt64)))) (hc316_2 : (own_v0_0 p0) = (5 : Int32) → (cmpValue (FP.dcmp (own_vh5_5 (own_v0_2 q2) (FP.i2d q3.toInt32)) (own_rex25_0 (own_v0_2 q2) (FP.i2d q3.toInt32))) .l) = (0 : Int32)) (c214_nn32_6 : (own_v0_0 p0) = (6 : Int32) → NoNaN64 (FP.dadd (0 : UInt64) (FP.i2d q1.toInt32))) (c214_nn49_5 : (own_v0_0 p0) = (6 : Int32) → NoNaN64 (FP.ddiv (own_v0_1 q1) (4611686018427387904 : UInt64))) (c214_nn50_5 : (own_v0_0 p0) = (6 : Int32) → NoNaN64 (FP.dadd (FP.dadd (0 : UInt64) (FP.i2d q1.toInt32)) (FP.ddiv (own_v0_1 q1) (4611686018427387904 : UInt64)))) (c214_nn67_5 : (own_v0_0 p0) = (6 : Int32) → NoNaN64 (FP.dadd (0 : UInt64) (FP.ddiv (own_v0_1 q1) (4611686018427387904 : UInt64)))) (c214_nn32_2_5 : (own_v0_0 p0) = (6 : Int32) → NoNaN64 (FP.dadd (own_vh6_1 (own_v0_1 q1)) (FP.i2d q2.toInt32))) (c214_nn49_2_4 : (own_v0_0 p0) = (6 : Int32) → NoNaN64 (FP.ddiv (own_v0_2 q2) (4611686018427387904 : UInt64))) (c214_nn50_2_4 : (own_v0_0 p0) = (6 : Int32) → NoNaN64 (FP.dadd (own_vh6_2 (own_v0_1 q1) (FP.i2d q2.toInt32)) (FP.ddiv (own_v0_2 q2) (4611686018427387904 : UInt64)))) (c214_nn67_2_4 : (own_v0_0 p0) = (6 : Int32) → NoNaN64 (FP.dadd (0 : UInt64) (FP.ddiv (own_v0_2 q2) (4611686018427387904 : UInt64)))) (c214_nn32_3_3 : (own_v0_0 p0) = (6 : Int32) → NoNaN64 (FP.dadd (own_vh6_4 (own_v0_2 q2)) (FP.i2d q3.toInt32))) (c214_nn49_3_2 : (own_v0_0 p0) = (6 : Int32) → NoNaN64 (FP.ddiv (own_v0_3 q3) (4611686018427387904 : UInt64))) (c214_nn50_3_2 : (own_v0_0 p0) = (6 : Int32) → NoNaN64 (FP.dadd (own_vh6_5 (own_v0_2 q2) (FP.i2d q3.toInt32)) (FP.ddiv (own_v0_3 q3) (4611686018427387904 : UInt64)))) (c214_nn67_3_2 : (own_v0_0 p0) = (6 : Int32) → NoNaN64 (FP.dadd (0 : UInt64) (FP.ddiv (own_v0_3 q3) (4611686018427387904 : UInt64)))) (c242_nn13_7 : (own_v0_0 p0) = (6 : Int32) → NoNaN64 (FP.ddiv (0 : UInt64) (4611686018427387904 : UInt64))) (c242_nn22_7 : (own_v0_0 p0) = (6 : Int32) → NoNaN64 (FP.dadd (FP.ddiv (0 : UInt64) (4611686018427387904 : UInt64)) (FP.i2d q1.toInt32))) (c242_nn37_7 : (own_v0_0 p0) = (6 : Int32) → NoNaN64 (FP.dadd (FP.dadd (FP.ddiv (0 : UInt64) (4611686018427387904 : UInt64)) (FP.i2d q1.toInt32)) (FP.ddiv (own_v0_1 q1) (4611686018427387904 : UInt64)))) (hc246_7 : (own_v0_0 p0) = (6 : Int32) → (cmpValue (FP.dcmp (own_vh6_0 (FP.i2d q1.toInt32) (own_v0_1 q1)) (own_rex02_0 (FP.i2d q1.toInt32) (own_v0_1 q1))) .l) = (0 : Int32)) (c277_nn22_5 : (own_v0_0 p0) = (6 : Int32) → NoNaN64 (FP.dadd (FP.ddiv (own_v0_1 q1) (4611686018427387904 : UInt64)) (FP.i2d q2.toInt32))) (c277_nn37_5 : (own_v0_0 p0) = (6 : Int32) → NoNaN64 (FP.dadd (FP.dadd (FP.ddiv (own_v0_1 q1) (4611686018427387904 : UInt64)) (FP.i2d q2.toInt32)) (FP.ddiv (own_v0_2 q2) (4611686018427387904 : UInt64)))) (hc281_5 : (own_v0_0 p0) = (6 : Int32) → (cmpValue (FP.dcmp (own_vh6_3 (own_v0_1 q1) (FP.i2d q2.toInt32) (own_v0_2 q2)) (own_rex14_0 (own_v0_1 q1) (FP.i2d q2.toInt32) (own_v0_2 q2))) .l) = (0 : Int32)) (c312_nn22_3 : (own_v0_0 p0) = (6 : Int32) → NoNaN64 (FP.dadd (FP.ddiv (own_v0_2 q2) (4611686018427387904 : UInt64)) (FP.i2d q3.toInt32))) (c312_nn37_3 : (own_v0_0 p0) = (6 : Int32) → NoNaN64 (FP.dadd (FP.dadd (FP.ddiv (own_v0_2 q2) (4611686018427387904 : UInt64)) (FP.i2d q3.toInt32)) (FP.ddiv (own_v0_3 q3) (4611686018427387904 : UInt64)))) (hc316_3 : (own_v0_0 p0) = (6 : Int32) → (cmpValue (FP.dcmp (own_vh6_6 (own_v0_2 q2) (FP.i2d q3.toInt32) (own_v0_3 q3)) (own_rex26_0 (own_v0_2 q2) (FP.i2d q3.toInt32) (own_v0_3 q3))) .l) = (0 : Int32)) (c347_nn22 : (own_v0_0 p0) = (6 : Int32) → NoNaN64 (FP.dadd (FP.ddiv (own_v0_3 q3) (4611686018427387904 : UInt64)) (0 : UInt64))) (c347_nn37 : (own_v0_0 p0) = (6 : Int32) → NoNaN64 (FP.dadd (FP.dadd (FP.ddiv (own_v0_3 q3) (4611686018427387904 : UInt64)) (0 : UInt64)) (FP.ddiv (0 : UInt64) (4611686018427387904 : UInt64)))) (hc351 : (own_v0_0 p0) = (6 : Int32) → (cmpValue (FP.dcmp (own_vh6_7 (own_v0_3 q3)) (own_rex36_0 (own_v0_3 q3))) .l) = (0 : Int32)) (c214_nn32_7 : (own_v0_0 p0) = (7 : Int32) → NoNaN64 (FP.dadd (0 : UInt64) (FP.i2d q1.toInt32))) (c214_nn49_6 : (own_v0_0 p0) = (7 : Int32) → NoNaN64 (FP.ddiv (own_v0_1 q1) (4611686018427387904 : UInt64))) (c214_nn50_6 : (own_v0_0 p0) = (7 : Int32) → NoNaN64 (FP.dadd (FP.dadd (0 : UInt64) (FP.i2d q1.toInt32)) (FP.ddiv (own_v0_1 q1) (4611686018427387904 : UInt64)))) (c214_nn67_6 : (own_v0_0 p0) = (7 : Int32) → NoNaN64 (FP.dadd (0 : UInt64) (FP.ddiv (own_v0_1 q1) (4611686018427387904 : UInt64)))) (c214_nn32_2_6 : (own_v0_0 p0) = (7 : Int32) → NoNaN64 (FP.dadd (own_vh7_1 (own_v0_1 q1)) (FP.i2d q2.toInt32))) (c214_nn49_2_5 : (own_v0_0 p0) = (7 : Int32) → NoNaN64 (FP.ddiv (own_v0_2 q2) (4611686018427387904 : UInt64))) (c214_nn50_2_5 : (own_v0_0 p0) = (7 : Int32) → NoNaN64 (FP.dadd (own_vh7_2 (own_v0_1 q1) (FP.i2d q2.toInt32)) (FP.ddiv (own_v0_2 q2) (4611686018427387904 : UInt64)))) (c214_nn67_2_5 : (own_v0_0 p0) = (7 : Int32) → NoNaN64 (FP.dadd (0 : UInt64) (FP.ddiv (own_v0_2 q2) (4611686018427387904 : UInt64)))) (c214_nn32_3_4 : (own_v0_0 p0) = (7 : Int32) → NoNaN64 (FP.dadd (own_vh7_4 (own_v0_2 q2)) (FP.i2d q3.toInt32))) (c214_nn49_3_3 : (own_v0_0 p0) = (7 : Int32) → NoNaN64 (FP.ddiv (own_v0_3 q3) (4611686018427387904 : UInt64))) (c214_nn50_3_3 : (own_v0_0 p0) = (7 : Int32) → NoNaN64 (FP.dadd (own_vh7_5 (own_v0_2 q2) (FP.i2d q3.toInt32)) (FP.ddiv (own_v0_3 q3) (4611686018427387904 : UInt64)))) (c214_nn67_3_3 : (own_v0_0 p0) = (7 : Int32) → NoNaN64 (FP.dadd (0 : UInt64) (FP.ddiv (own_v0_3 q3) (4611686018427387904 : UInt64)))) (c214_nn32_4_2 : (own_v0_0 p0) = (7 : Int32) → NoNaN64 (FP.dadd (own_vh7_7 (own_v0_3 q3)) (FP.i2d q4.toInt32))) (c242_nn13_8 : (own_v0_0 p0) = (7 : Int32) → NoNaN64 (FP.ddiv (0 : UInt64) (4611686018427387904 : UInt64))) (c242_nn22_8 : (own_v0_0 p0) = (7 : Int32) → NoNaN64 (FP.dadd (FP.ddiv (0 : UInt64) (4611686018427387904 : UInt64)) (FP.i2d q1.toInt32))) (c242_nn37_8 : (own_v0_0 p0) = (7 : Int32) → NoNaN64 (FP.dadd (FP.dadd (FP.ddiv (0 : UInt64) (4611686018427387904 : UInt64)) (FP.i2d q1.toInt32)) (FP.ddiv (own_v0_1 q1) (4611686018427387904 : UInt64)))) (hc246_8 : (own_v0_0 p0) = (7 : Int32) → (cmpValue (FP.dcmp (own_vh7_0 (FP.i2d q1.toInt32) (own_v0_1 q1)) (own_rex02_0 (FP.i2d q1.toInt32) (own_v0_1 q1))) .l) = (0 : Int32)) (c277_nn22_6 : (own_v0_0 p0) = (7 : Int32) → NoNaN64 (FP.dadd (FP.ddiv (own_v0_1 q1) (4611686018427387904 : UInt64)) (FP.i2d q2.toInt32))) (c277_nn37_6 : (own_v0_0 p0) = (7 : Int32) → NoNaN64 (FP.dadd (FP.dadd (FP.ddiv (own_v0_1 q1) (4611686018427387904 : UInt64)) (FP.i2d q2.toInt32)) (FP.ddiv (own_v0_2 q2) (4611686018427387904 : UInt64)))) (hc281_6 : (own_v0_0 p0) = (7 : Int32) → (cmpValue (FP.dcmp (own_vh7_3 (own_v0_1 q1) (FP.i2d q2.toInt32) (own_v0_2 q2)) (own_rex14_0 (own_v0_1 q1) (FP.i2d q2.toInt32) (own_v0_2 q2))) .l) = (0 : Int32)) (c312_nn22_4 : (own_v0_0 p0) = (7 : Int32) → NoNaN64 (FP.dadd (FP.ddiv (own_v0_2 q2) (4611686018427387904 : UInt64)) (FP.i2d q3.toInt32))) (c312_nn37_4 : (own_v0_0 p0) = (7 : Int32) → NoNaN64 (FP.dadd (FP.dadd (FP.ddiv (own_v0_2 q2) (4611686018427387904 : UInt64)) (FP.i2d q3.toInt32)) (FP.ddiv (own_v0_3 q3) (4611686018427387904 : UInt64)))) (hc316_4 : (own_v0_0 p0) = (7 : Int32) → (cmpValue (FP.dcmp (own_vh7_6 (own_v0_2 q2) (FP.i2d q3.toInt32) (own_v0_3 q3)) (own_rex26_0 (own_v0_2 q2) (FP.i2d q3.toInt32) (own_v0_3 q3))) .l) = (0 : Int32)) (c347_nn22_2 : (own_v0_0 p0) = (7 : Int32) → NoNaN64 (FP.dadd (FP.ddiv (own_v0_3 q3) (4611686018427387904 : UInt64)) (FP.i2d q4.toInt32))) (c347_nn37_2 : (own_v0_0 p0) = (7 : Int32) → NoNaN64 (FP.dadd (FP.dadd (FP.ddiv (own_v0_3 q3) (4611686018427387904 : UInt64)) (FP.i2d q4.toInt32)) (FP.ddiv (0 : UInt64) (4611686018427387904 : UInt64)))) (hc351_2 : (own_v0_0 p0) = (7 : Int32) → (cmpValue (FP.dcmp (own_vh7_8 (own_v0_3 q3) (FP.i2d q4.toInt32)) (own_rex37_0 (own_v0_3 q3) (FP.i2d q4.toInt32))) .l) = (0 : Int32)) (c214_nn32_8 : (own_v0_0 p0) = (8 : Int32) → NoNaN64 (FP.dadd (0 : UInt64) (FP.i2d q1.toInt32))) (c214_nn49_7 : (own_v0_0 p0) = (8 : Int32) → NoNaN64 (FP.ddiv (own_v0_1 q1) (4611686018427387904 : UInt64))) (c214_nn50_7 : (own_v0_0 p0) = (8 : Int32) → NoNaN64 (FP.dadd (FP.dadd (0 : UInt64) (FP.i2d q1.toInt32)) (FP.ddiv (own_v0_1 q1) (4611686018427387904 : UInt64)))) (c214_nn67_7 : (own_v0_0 p0) = (8 : Int32) → NoNaN64 (FP.dadd (0 : UInt64) (FP.ddiv (own_v0_1 q1) (4611686018427387904 : UInt64)))) (c214_nn32_2_7 : (own_v0_0 p0) = (8 : Int32) → NoNaN64 (FP.dadd (own_vh8_1 (own_v0_1 q1)) (FP.i2d q2.toInt32))) (c214_nn49_2_6 : (own_v0_0 p0) = (8 : Int32) → NoNaN64 (FP.ddiv (own_v0_2 q2) (4611686018427387904 : UInt64))) (c214_nn50_2_6 : (own_v0_0 p0) = (8 : Int32) → NoNaN64 (FP.dadd (own_vh8_2 (own_v0_1 q1) (FP.i2d q2.toInt32)) (FP.ddiv (own_v0_2 q2) (4611686018427387904 : UInt64)))) (c214_nn67_2_6 : (own_v0_0 p0) = (8 : Int32) → NoNaN64 (FP.dadd (0 : UInt64) (FP.ddiv (own_v0_2 q2) (4611686018427387904 : UInt64)))) (c214_nn32_3_5 : (own_v0_0 p0) = (8 : Int32) → NoNaN64 (FP.dadd (own_vh8_4 (own_v0_2 q2)) (FP.i2d q3.toInt32))) (c214_nn49_3_4 : (own_v0_0 p0) = (8 : Int32) → NoNaN64 (FP.ddiv (own_v0_3 q3) (4611686018427387904 : UInt64))) (c214_nn50_3_4 : (own_v0_0 p0) = (8 : Int32) → NoNaN64 (FP.dadd (own_vh8_5 (own_v0_2 q2) (FP.i2d q3.toInt32)) (FP.ddiv (own_v0_3 q3) (4611686018427387904 : UInt64)))) (c214_nn67_3_4 : (own_v0_0 p0) = (8 : Int32) → NoNaN64 (FP.dadd (0 : UInt64) (FP.ddiv (own_v0_3 q3) (4611686018427387904 : UInt64)))) (c214_nn32_4_3 : (own_v0_0 p0) = (8 : Int32) → NoNaN64 (FP.dadd (own_vh8_7 (own_v0_3 q3)) (FP.i2d q4.toInt32))) (c214_nn49_4_2 : (own_v0_0 p0) = (8 : Int32) → NoNaN64 (FP.ddiv (own_v0_4 q4) (4611686018427387904 : UInt64))) (c214_nn50_4_2 : (own_v0_0 p0) = (8 : Int32) → NoNaN64 (FP.dadd (own_vh8_8 (own_v0_3 q3) (FP.i2d q4.toInt32)) (FP.ddiv (own_v0_4 q4) (4611686018427387904 : UInt64)))) (c214_nn67_4_2 : (own_v0_0 p0) = (8 : Int32) → NoNaN64 (FP.dadd (0 : UInt64) (FP.ddiv (own_v0_4 q4) (4611686018427387904 : UInt64)))) (c242_nn13_9 : (own_v0_0 p0) = (8 : Int32) → NoNaN64 (FP.ddiv (0 : UInt64) (4611686018427387904 : UInt64))) (c242_nn22_9 : (own_v0_0 p0) = (8 : Int32) → NoNaN64 (FP.dadd (FP.ddiv (0 : UInt64) (4611686018427387904 : UInt64)) (FP.i2d q1.toInt32))) (c242_nn37_9 : (own_v0_0 p0) = (8 : Int32) → NoNaN64 (FP.dadd (FP.dadd (FP.ddiv (0 : UInt64) (4611686018427387904 : UInt64)) (FP.i2d q1.toInt32)) (FP.ddiv (own_v0_1 q1) (4611686018427387904 : UInt64)))) (hc246_9 : (own_v0_0 p0) = (8 : Int32) → (cmpValue (FP.dcmp (own_vh8_0 (FP.i2d q1.toInt32) (own_v0_1 q1)) (own_rex02_0 (FP.i2d q1.toInt32) (own_v0_1 q1))) .l) = (0 : Int32)) (c277_nn22_7 : (own_v0_0 p0) = (8 : Int32) → NoNaN64 (FP.dadd (FP.ddiv (own_v0_1 q1) (4611686018427387904 : UInt64)) (FP.i2d q2.toInt32))) (c277_nn37_7 : (own_v0_0 p0) = (8 : Int32) → NoNaN64 (FP.dadd (FP.dadd (FP.ddiv (own_v0_1 q1) (4611686018427387904 : UInt64)) (FP.i2d q2.toInt32)) (FP.ddiv (own_v0_2 q2) (4611686018427387904 : UInt64)))) (hc281_7 : (own_v0_0 p0) = (8 : Int32) → (cmpValue (FP.dcmp (own_vh8_3 (own_v0_1 q1) (FP.i2d q2.toInt32) (own_v0_2 q2)) (own_rex14_0 (own_v0_1 q1) (FP.i2d q2.toInt32) (own_v0_2 q2))) .l) = (0 : Int32)) (c312_nn22_5 : (own_v0_0 p0) = (8 : Int32) → NoNaN64 (FP.dadd (FP.ddiv (own_v0_2 q2) (4611686018427387904 : UInt64)) (FP.i2d q3.toInt32))) (c312_nn37_5 : (own_v0_0 p0) = (8 : Int32) → NoNaN64 (FP.dadd (FP.dadd (FP.ddiv (own_v0_2 q2) (4611686018427387904 : UInt64)) (FP.i2d q3.toInt32)) (FP.ddiv (own_v0_3 q3) (4611686018427387904 : UInt64)))) (hc316_5 : (own_v0_0 p0) = (8 : Int32) → (cmpValue (FP.dcmp (own_vh8_6 (own_v0_2 q2) (FP.i2d q3.toInt32) (own_v0_3 q3)) (own_rex26_0 (own_v0_2 q2) (FP.i2d q3.toInt32) (own_v0_3 q3))) .l) = (0 : Int32)) (c347_nn22_3 : (own_v0_0 p0) = (8 : Int32) → NoNaN64 (FP.dadd (FP.ddiv (own_v0_3 q3) (4611686018427387904 : UInt64)) (FP.i2d q4.toInt32))) (c347_nn37_3 : (own_v0_0 p0) = (8 : Int32) → NoNaN64 (FP.dadd (FP.dadd (FP.ddiv (own_v0_3 q3) (4611686018427387904 : UInt64)) (FP.i2d q4.toInt32)) (FP.ddiv (own_v0_4 q4) (4611686018427387904 : UInt64)))) (hc351_3 : (own_v0_0 p0) = (8 : Int32) → (cmpValue (FP.dcmp (own_vh8_9 (own_v0_3 q3) (FP.i2d q4.toInt32) (own_v0_4 q4)) (own_rex38_0 (own_v0_3 q3) (FP.i2d q4.toInt32) (own_v0_4 q4))) .l) = (0 : Int32)) (c382_nn22 : (own_v0_0 p0) = (8 : Int32) → NoNaN64 (FP.dadd (FP.ddiv (own_v0_4 q4) (4611686018427387904 : UInt64)) (0 : UInt64))) (c382_nn37 : (own_v0_0 p0) = (8 : Int32) → NoNaN64 (FP.dadd (FP.dadd (FP.ddiv (own_v0_4 q4) (4611686018427387904 : UInt64)) (0 : UInt64)) (FP.ddiv (0 : UInt64) (4611686018427387904 : UInt64)))) (hc386 : (own_v0_0 p0) = (8 : Int32) → (cmpValue (FP.dcmp (own_vh8_10 (own_v0_4 q4)) (own_rex48_0 (own_v0_4 q4))) .l) = (0 : Int32)) :
    MetFree l x (head1 (Jvm.Cond.code x code maxLocals ret :: ws) room_1) (fun a U => a = #[(.int p0), (.long q1), (.long q2), (.long q3), (.long q4)] ∧ Z.Warmed39 U.vm ∧ U.heap = h0) (fun _ _ _ _ _ => True) (fun _ U o U' => ∃ v L, o = .returned v ∧ own_Q0 Z p0 q1 q2 q3 q4 h0 n0 v U'.heap L ∧ FrameEnd U o U' L room_1.cells room_1.slots) := by
  refine MetFree.of_bodySF (plainFor_of_name own_pn0) hisR ?_
  intro p e s m args below meth c s₁ Bd hml0 hP hK
  obtain ⟨rfl, hZ, hh⟩ := hP
  have hx := Bd.exec
  have hby := Bd.bytes
  have hml : c.maxLocals = 14 := hml0
  have hown : s.vm.findClass "com/example/surepath/surepath/LatticesHalvedPinLaw" = some m.cls := findClass_of_methodNamed Bd.named
  have hnm := (name_of_methodNamed Bd.named Bd.method).1
  have X0 : Stand p l e room_1 s m #[(.int p0), (.long q1), (.long q2), (.long q3), (.long q4)] below meth c s₁ [] 0 0 := Stand.of_body Bd
  have e0 : s₁.heap = h0 := by rw [← hh, Bd.state]; rfl
  have N0 := Fr.nil n0
  have Zr : h0.size ≤ h0.size := Nat.le_refl _
  have pre0 : ∀ t, Steps p.tables e below (s₁.setTop (mkF m 0 #[.val (.int p0), .val (.long q1), .second, .val (.long q2), .second, .val (.long q3), .second, .val (.long q4), .second, .unset, .unset, .unset, .unset, .unset] [])) t → Steps p.tables e below (s₁.setTop (entryFrame m #[(.int p0), (.long q1), (.long q2), (.long q3), (.long q4)] maxLocals)) t := fun t k => castTop (own_ef0 m p0 q1 q2 q3 q4) k
  obtain ⟨Tn1, hn1, kn1, Xn1, en1, En1, An1, stn1⟩ := newP X0 hx hZ (own_W hw 1 rfl) e0 (g := (mkF m 11 #[.val (.int p0), .val (.long q1), .second, .val (.long q2), .second, .val (.long q3), .second, .val (.long q4), .second, .val (.int (own_v0_0 p0)), .unset, .unset, .unset, .unset] [(.int 8)])) rfl (hb hby at_11) rfl (by decide) (cap := 8) (by decide) (by decide) (by decide) (by decide)
  obtain ⟨bn1, gn1⟩ : ∃ z, z = h0.size := ⟨_, rfl⟩
  rw [← gn1] at An1 stn1
  have g_bn1 : n0 ≤ bn1 := Nat.le_trans Z0 (Nat.le_of_eq gn1.symm)
  have sz_bn1 : h0.size ≤ bn1 := Nat.le_trans Zr (Nat.le_of_eq gn1.symm)
  have sz2 : h0.size ≤ hn1.size := Nat.le_trans Zr En1.1
  have V_bn1 : Arv Z hn1 bn1 kn1 .double (8 : Int32) [(.double 0), (.double 0), (.double 0), (.double 0), (.double 0), (.double 0), (.double 0), (.double 0)] (.double 0) := (Arv.new An1 (by decide)).pad (pad_rep [] (.double 0) 8)
  obtain ⟨clo3, Aro3, qo3, So3, No3, Ho3, Go3⟩ := id V_bn1
  have hi4 := inb_of (j := (0 : Int32)) So3 ⟨by decide, by decide⟩
  obtain ⟨To5, ho5, Xo5, eo5, Wo5, sto5⟩ := stD Xn1 hx hZ en1 Aro3 (j := (0 : Int32)) hi4 (g := (mkF m 21 #[.val (.int p0), .val (.long q1), .second, .val (.long q2), .second, .val (.long q3), .second, .val (.long q4), .second, .val (.int (own_v0_0 p0)), .val (.ref bn1), .unset, .unset, .unset] [(.double (FP.i2d q1.toInt32)), (.int 0), (.ref bn1)])) rfl rfl (hb hby at_21)
  have Vwo5 : Arv Z ho5 bn1 kn1 .double (8 : Int32) [(.double (FP.i2d q1.toInt32)), (.double 0), (.double 0), (.double 0), (.double 0), (.double 0), (.double 0), (.double 0)] (.double 0) := Arv.set Aro3 qo3 So3 No3 Ho3 Go3 rfl Wo5 0 rfl (Nat.le_of_ble_eq_true rfl)
  have sz6 : h0.size ≤ ho5.size := Nat.le_trans sz2 (Nat.le_of_eq Wo5.size.symm)
  have Nfo5 := Fr.snoc Xo5 N0 g_bn1
  obtain ⟨clo7, Aro7, qo7, So7, No7, Ho7, Go7⟩ := id Vwo5
  have hi8 := inb_of (j := (1 : Int32)) So7 ⟨by decide, by decide⟩
  obtain ⟨To9, ho9, Xo9, eo9, Wo9, sto9⟩ := stD Xo5 hx hZ eo5 Aro7 (j := (1 : Int32)) hi8 (g := (mkF m 31 #[.val (.int p0), .val (.long q1), .second, .val (.long q2), .second, .val (.long q3), .second, .val (.long q4), .second, .val (.int (own_v0_0 p0)), .val (.ref bn1), .unset, .unset, .unset] [(.double (FP.i2d (XT.ushrL q1 (32 : Int32)).toInt32)), (.int 1), (.ref bn1)])) rfl rfl (hb hby at_31)
  have Vwo9 : Arv Z ho9 bn1 kn1 .double (8 : Int32) [(.double (FP.i2d q1.toInt32)), (.double (own_v0_1 q1)), (.double 0), (.double 0), (.double 0), (.double 0), (.double 0), (.double 0)] (.double 0) := Arv.set Aro7 qo7 So7 No7 Ho7 Go7 rfl Wo9 1 rfl (Nat.le_of_ble_eq_true rfl)
  have sz10 : h0.size ≤ ho9.size := Nat.le_trans sz6 (Nat.le_of_eq Wo9.size.symm)
  have Nfo9 := Fr.snoc Xo9 Nfo5 g_bn1
  obtain ⟨clo11, Aro11, qo11, So11, No11, Ho11, Go11⟩ := id Vwo9
  have hi12 := inb_of (j := (2 : Int32)) So11 ⟨by decide, by decide⟩
  obtain ⟨To13, ho13, Xo13, eo13, Wo13, sto13⟩ := stD Xo9 hx hZ eo9 Aro11 (j := (2 : Int32)) hi12 (g := (mkF m 38 #[.val (.int p0), .val (.long q1), .second, .val (.long q2), .second, .val (.long q3), .second, .val (.long q4), .second, .val (.int (own_v0_0 p0)), .val (.ref bn1), .unset, .unset, .unset] [(.double (FP.i2d q2.toInt32)), (.int 2), (.ref bn1)])) rfl rfl (hb hby at_38)
  have Vwo13 : Arv Z ho13 bn1 kn1 .double (8 : Int32) [(.double (FP.i2d q1.toInt32)), (.double (own_v0_1 q1)), (.double (FP.i2d q2.toInt32)), (.double 0), (.double 0), (.double 0), (.double 0), (.double 0)] (.double 0) := Arv.set Aro11 qo11 So11 No11 Ho11 Go11 rfl Wo13 2 rfl (Nat.le_of_ble_eq_true rfl)
  have sz14 : h0.size ≤ ho13.size := Nat.le_trans sz10 (Nat.le_of_eq Wo13.size.symm)
  have Nfo13 := Fr.snoc Xo13 Nfo9 g_bn1
  obtain ⟨clo15, Aro15, qo15, So15, No15, Ho15, Go15⟩ := id Vwo13
  have hi16 := inb_of (j := (3 : Int32)) So15 ⟨by decide, by decide⟩
  obtain ⟨To17, ho17, Xo17, eo17, Wo17, sto17⟩ := stD Xo13 hx hZ eo13 Aro15 (j := (3 : Int32)) hi16 (g := (mkF m 48 #[.val (.int p0), .val (.long q1), .second, .val (.long q2), .second, .val (.long q3), .second, .val (.long q4), .second, .val (.int (own_v0_0 p0)), .val (.ref bn1), .unset, .unset, .unset] [(.double (FP.i2d (XT.ushrL q2 (32 : Int32)).toInt32)), (.int 3), (.ref bn1)])) rfl rfl (hb hby at_48)
  have Vwo17 : Arv Z ho17 bn1 kn1 .double (8 : Int32) [(.double (FP.i2d q1.toInt32)), (.double (own_v0_1 q1)), (.double (FP.i2d q2.toInt32)), (.double (own_v0_2 q2)), (.double 0), (.double 0), (.double 0), (.double 0)] (.double 0) := Arv.set Aro15 qo15 So15 No15 Ho15 Go15 rfl Wo17 3 rfl (Nat.le_of_ble_eq_true rfl)
  have sz18 : h0.size ≤ ho17.size := Nat.le_trans sz14 (Nat.le_of_eq Wo17.size.symm)
  have Nfo17 := Fr.snoc Xo17 Nfo13 g_bn1
  obtain ⟨clo19, Aro19, qo19, So19, No19, Ho19, Go19⟩ := id Vwo17
  have hi20 := inb_of (j := (4 : Int32)) So19 ⟨by decide, by decide⟩
  obtain ⟨To21, ho21, Xo21, eo21, Wo21, sto21⟩ := stD Xo17 hx hZ eo17 Aro19 (j := (4 : Int32)) hi20 (g := (mkF m 56 #[.val (.int p0), .val (.long q1), .second, .val (.long q2), .second, .val (.long q3), .second, .val (.long q4), .second, .val (.int (own_v0_0 p0)), .val (.ref bn1), .unset, .unset, .unset] [(.double (FP.i2d q3.toInt32)), (.int 4), (.ref bn1)])) rfl rfl (hb hby at_56)
  have Vwo21 : Arv Z ho21 bn1 kn1 .double (8 : Int32) [(.double (FP.i2d q1.toInt32)), (.double (own_v0_1 q1)), (.double (FP.i2d q2.toInt32)), (.double (own_v0_2 q2)), (.double (FP.i2d q3.toInt32)), (.double 0), (.double 0), (.double 0)] (.double 0) := Arv.set Aro19 qo19 So19 No19 Ho19 Go19 rfl Wo21 4 rfl (Nat.le_of_ble_eq_true rfl)
  have sz22 : h0.size ≤ ho21.size := Nat.le_trans sz18 (Nat.le_of_eq Wo21.size.symm)
  have Nfo21 := Fr.snoc Xo21 Nfo17 g_bn1
  obtain ⟨clo23, Aro23, qo23, So23, No23, Ho23, Go23⟩ := id Vwo21
  have hi24 := inb_of (j := (5 : Int32)) So23 ⟨by decide, by decide⟩
  obtain ⟨To25, ho25, Xo25, eo25, Wo25, sto25⟩ := stD Xo21 hx hZ eo21 Aro23 (j := (5 : Int32)) hi24 (g := (mkF m 67 #[.val (.int p0), .val (.long q1), .second, .val (.long q2), .second, .val (.long q3), .second, .val (.long q4), .second, .val (.int (own_v0_0 p0)), .val (.ref bn1), .unset, .unset, .unset] [(.double (FP.i2d (XT.ushrL q3 (32 : Int32)).toInt32)), (.int 5), (.ref bn1)])) rfl rfl (hb hby at_67)
  have Vwo25 : Arv Z ho25 bn1 kn1 .double (8 : Int32) [(.double (FP.i2d q1.toInt32)), (.double (own_v0_1 q1)), (.double (FP.i2d q2.toInt32)), (.double (own_v0_2 q2)), (.double (FP.i2d q3.toInt32)), (.double (own_v0_3 q3)), (.double 0), (.double 0)] (.double 0) := Arv.set Aro23 qo23 So23 No23 Ho23 Go23 rfl Wo25 5 rfl (Nat.le_of_ble_eq_true rfl)
  have sz26 : h0.size ≤ ho25.size := Nat.le_trans sz22 (Nat.le_of_eq Wo25.size.symm)
  have Nfo25 := Fr.snoc Xo25 Nfo21 g_bn1
  obtain ⟨clo27, Aro27, qo27, So27, No27, Ho27, Go27⟩ := id Vwo25
  have hi28 := inb_of (j := (6 : Int32)) So27 ⟨by decide, by decide⟩
  obtain ⟨To29, ho29, Xo29, eo29, Wo29, sto29⟩ := stD Xo25 hx hZ eo25 Aro27 (j := (6 : Int32)) hi28 (g := (mkF m 76 #[.val (.int p0), .val (.long q1), .second, .val (.long q2), .second, .val (.long q3), .second, .val (.long q4), .second, .val (.int (own_v0_0 p0)), .val (.ref bn1), .unset, .unset, .unset] [(.double (FP.i2d q4.toInt32)), (.int 6), (.ref bn1)])) rfl rfl (hb hby at_76)
  have Vwo29 : Arv Z ho29 bn1 kn1 .double (8 : Int32) [(.double (FP.i2d q1.toInt32)), (.double (own_v0_1 q1)), (.double (FP.i2d q2.toInt32)), (.double (own_v0_2 q2)), (.double (FP.i2d q3.toInt32)), (.double (own_v0_3 q3)), (.double (FP.i2d q4.toInt32)), (.double 0)] (.double 0) := Arv.set Aro27 qo27 So27 No27 Ho27 Go27 rfl Wo29 6 rfl (Nat.le_of_ble_eq_true rfl)
  have sz30 : h0.size ≤ ho29.size := Nat.le_trans sz26 (Nat.le_of_eq Wo29.size.symm)
  have Nfo29 := Fr.snoc Xo29 Nfo25 g_bn1
  obtain ⟨clo31, Aro31, qo31, So31, No31, Ho31, Go31⟩ := id Vwo29
  have hi32 := inb_of (j := (7 : Int32)) So31 ⟨by decide, by decide⟩
  obtain ⟨To33, ho33, Xo33, eo33, Wo33, sto33⟩ := stD Xo29 hx hZ eo29 Aro31 (j := (7 : Int32)) hi32 (g := (mkF m 88 #[.val (.int p0), .val (.long q1), .second, .val (.long q2), .second, .val (.long q3), .second, .val (.long q4), .second, .val (.int (own_v0_0 p0)), .val (.ref bn1), .unset, .unset, .unset] [(.double (FP.i2d (XT.ushrL q4 (32 : Int32)).toInt32)), (.int 7), (.ref bn1)])) rfl rfl (hb hby at_88)
  have Vwo33 : Arv Z ho33 bn1 kn1 .double (8 : Int32) [(.double (FP.i2d q1.toInt32)), (.double (own_v0_1 q1)), (.double (FP.i2d q2.toInt32)), (.double (own_v0_2 q2)), (.double (FP.i2d q3.toInt32)), (.double (own_v0_3 q3)), (.double (FP.i2d q4.toInt32)), (.double (own_v0_4 q4))] (.double 0) := Arv.set Aro31 qo31 So31 No31 Ho31 Go31 rfl Wo33 7 rfl (Nat.le_of_ble_eq_true rfl)
  have sz34 : h0.size ≤ ho33.size := Nat.le_trans sz30 (Nat.le_of_eq Wo33.size.symm)
  have Nfo33 := Fr.snoc Xo33 Nfo29 g_bn1
  have Ks35 : ∀ t, Steps p.tables e below (To33.setTop (mkF m 89 #[.val (.int p0), .val (.long q1), .second, .val (.long q2), .second, .val (.long q3), .second, .val (.long q4), .second, .val (.int (own_v0_0 p0)), .val (.ref bn1), .unset, .unset, .unset] [])) t → Steps p.tables e below (s₁.setTop (mkF m 0 #[.val (.int p0), .val (.long q1), .second, .val (.long q2), .second, .val (.long q3), .second, .val (.long q4), .second, .unset, .unset, .unset, .unset, .unset] [])) t := by
    intro t kt
    show Steps p.tables e below (s₁.setTop (mkF m 0 #[.val (.int p0), .val (.long q1), .second, .val (.long q2), .second, .val (.long q3), .second, .val (.long q4), .second, .unset, .unset, .unset, .unset, .unset] [])) _
    refine XS.iloadN X0.here hx rfl (hb hby at_0) rfl ?_
    refine X0.ldcInt hx hown (mvT hZ (own_W hw 0 rfl)) (g := (mkF m 1 #[.val (.int p0), .val (.long q1), .second, .val (.long q2), .second, .val (.long q3), .second, .val (.long q4), .second, .unset, .unset, .unset, .unset, .unset] [(.int p0)])) rfl (hb hby at_1) _ ?_
    refine XS.iand X0.here hx rfl (hb hby at_3) rfl ?_
    refine XS.bipush X0.here hx rfl (hb hby at_4) ?_
    refine XS.irem X0.here hx rfl (hb hby at_6) rfl (by decide) ?_
    refine XS.istore X0.here hx rfl (hb hby at_7) rfl (l' := #[.val (.int p0), .val (.long q1), .second, .val (.long q2), .second, .val (.long q3), .second, .val (.long q4), .second, .val (.int (own_v0_0 p0)), .unset, .unset, .unset, .unset]) rfl ?_
    refine XS.bipush X0.here hx rfl (hb hby at_9) ?_
    refine stn1 _ ?_
    show Steps p.tables e below (Tn1.setTop (mkF m 13 #[.val (.int p0), .val (.long q1), .second, .val (.long q2), .second, .val (.long q3), .second, .val (.long q4), .second, .val (.int (own_v0_0 p0)), .unset, .unset, .unset, .unset] [(.ref bn1)])) _
    refine XS.astore Xn1.here hx rfl (hb hby at_13) rfl rfl (l' := #[.val (.int p0), .val (.long q1), .second, .val (.long q2), .second, .val (.long q3), .second, .val (.long q4), .second, .val (.int (own_v0_0 p0)), .val (.ref bn1), .unset, .unset, .unset]) rfl ?_
    refine XS.aload Xn1.here hx rfl (hb hby at_15) rfl rfl ?_
    refine XS.iconst Xn1.here hx rfl (hb hby at_17) ?_
    refine XT.lloadN Xn1.here hx rfl (hb hby at_18) rfl ?_
    refine XT.l2i Xn1.here hx rfl (hb hby at_19) rfl ?_
    show Steps p.tables e below (Tn1.setTop (mkF m 20 #[.val (.int p0), .val (.long q1), .second, .val (.long q2), .second, .val (.long q3), .second, .val (.long q4), .second, .val (.int (own_v0_0 p0)), .val (.ref bn1), .unset, .unset, .unset] [(.int q1.toInt32), (.int 0), (.ref bn1)])) _
    refine XS.i2dS Xn1.here hx rfl (hb hby at_20) rfl rfl ?_
    refine sto5 _ ?_
    refine XS.aload Xo5.here hx rfl (hb hby at_22) rfl rfl ?_
    refine XS.iconst Xo5.here hx rfl (hb hby at_24) ?_
    refine XT.lloadN Xo5.here hx rfl (hb hby at_25) rfl ?_
    refine XS.bipush Xo5.here hx rfl (hb hby at_26) ?_
    refine XT.lushr Xo5.here hx rfl (hb hby at_28) rfl ?_
    show Steps p.tables e below (To5.setTop (mkF m 29 #[.val (.int p0), .val (.long q1), .second, .val (.long q2), .second, .val (.long q3), .second, .val (.long q4), .second, .val (.int (own_v0_0 p0)), .val (.ref bn1), .unset, .unset, .unset] [(.long (XT.ushrL q1 (32 : Int32))), (.int 1), (.ref bn1)])) _
    refine XT.l2i Xo5.here hx rfl (hb hby at_29) rfl ?_
    refine XS.i2dS Xo5.here hx rfl (hb hby at_30) rfl rfl ?_
    refine sto9 _ ?_
    show Steps p.tables e below (To9.setTop (mkF m 32 #[.val (.int p0), .val (.long q1), .second, .val (.long q2), .second, .val (.long q3), .second, .val (.long q4), .second, .val (.int (own_v0_0 p0)), .val (.ref bn1), .unset, .unset, .unset] [])) _
    refine XS.aload Xo9.here hx rfl (hb hby at_32) rfl rfl ?_
    refine XS.iconst Xo9.here hx rfl (hb hby at_34) ?_
    refine XT.lloadN Xo9.here hx rfl (hb hby at_35) rfl ?_
    refine XT.l2i Xo9.here hx rfl (hb hby at_36) rfl ?_
    show Steps p.tables e below (To9.setTop (mkF m 37 #[.val (.int p0), .val (.long q1), .second, .val (.long q2), .second, .val (.long q3), .second, .val (.long q4), .second, .val (.int (own_v0_0 p0)), .val (.ref bn1), .unset, .unset, .unset] [(.int q2.toInt32), (.int 2), (.ref bn1)])) _
    refine XS.i2dS Xo9.here hx rfl (hb hby at_37) rfl rfl ?_
    refine sto13 _ ?_
    refine XS.aload Xo13.here hx rfl (hb hby at_39) rfl rfl ?_
    refine XS.iconst Xo13.here hx rfl (hb hby at_41) ?_
    refine XT.lloadN Xo13.here hx rfl (hb hby at_42) rfl ?_
    refine XS.bipush Xo13.here hx rfl (hb hby at_43) ?_
    refine XT.lushr Xo13.here hx rfl (hb hby at_45) rfl ?_
    show Steps p.tables e below (To13.setTop (mkF m 46 #[.val (.int p0), .val (.long q1), .second, .val (.long q2), .second, .val (.long q3), .second, .val (.long q4), .second, .val (.int (own_v0_0 p0)), .val (.ref bn1), .unset, .unset, .unset] [(.long (XT.ushrL q2 (32 : Int32))), (.int 3), (.ref bn1)])) _
    refine XT.l2i Xo13.here hx rfl (hb hby at_46) rfl ?_
    refine XS.i2dS Xo13.here hx rfl (hb hby at_47) rfl rfl ?_
    refine sto17 _ ?_
    show Steps p.tables e below (To17.setTop (mkF m 49 #[.val (.int p0), .val (.long q1), .second, .val (.long q2), .second, .val (.long q3), .second, .val (.long q4), .second, .val (.int (own_v0_0 p0)), .val (.ref bn1), .unset, .unset, .unset] [])) _
    refine XS.aload Xo17.here hx rfl (hb hby at_49) rfl rfl ?_
    refine XS.iconst Xo17.here hx rfl (hb hby at_51) ?_
    refine XT.lload Xo17.here hx rfl (hb hby at_52) rfl ?_
    refine XT.l2i Xo17.here hx rfl (hb hby at_54) rfl ?_
    show Steps p.tables e below (To17.setTop (mkF m 55 #[.val (.int p0), .val (.long q1), .second, .val (.long q2), .second, .val (.long q3), .second, .val (.long q4), .second, .val (.int (own_v0_0 p0)), .val (.ref bn1), .unset, .unset, .unset] [(.int q3.toInt32), (.int 4), (.ref bn1)])) _
    refine XS.i2dS Xo17.here hx rfl (hb hby at_55) rfl rfl ?_
    refine sto21 _ ?_
    refine XS.aload Xo21.here hx rfl (hb hby at_57) rfl rfl ?_
    refine XS.iconst Xo21.here hx rfl (hb hby at_59) ?_
    refine XT.lload Xo21.here hx rfl (hb hby at_60) rfl ?_
    refine XS.bipush Xo21.here hx rfl (hb hby at_62) ?_
    refine XT.lushr Xo21.here hx rfl (hb hby at_64) rfl ?_
    show Steps p.tables e below (To21.setTop (mkF m 65 #[.val (.int p0), .val (.long q1), .second, .val (.long q2), .second, .val (.long q3), .second, .val (.long q4), .second, .val (.int (own_v0_0 p0)), .val (.ref bn1), .unset, .unset, .unset] [(.long (XT.ushrL q3 (32 : Int32))), (.int 5), (.ref bn1)])) _
    refine XT.l2i Xo21.here hx rfl (hb hby at_65) rfl ?_
    refine XS.i2dS Xo21.here hx rfl (hb hby at_66) rfl rfl ?_
    refine sto25 _ ?_
    show Steps p.tables e below (To25.setTop (mkF m 68 #[.val (.int p0), .val (.long q1), .second, .val (.long q2), .second, .val (.long q3), .second, .val (.long q4), .second, .val (.int (own_v0_0 p0)), .val (.ref bn1), .unset, .unset, .unset] [])) _
    refine XS.aload Xo25.here hx rfl (hb hby at_68) rfl rfl ?_
    refine XS.bipush Xo25.here hx rfl (hb hby at_70) ?_
    refine XT.lload Xo25.here hx rfl (hb hby at_72) rfl ?_
    refine XT.l2i Xo25.here hx rfl (hb hby at_74) rfl ?_
    show Steps p.tables e below (To25.setTop (mkF m 75 #[.val (.int p0), .val (.long q1), .second, .val (.long q2), .second, .val (.long q3), .second, .val (.long q4), .second, .val (.int (own_v0_0 p0)), .val (.ref bn1), .unset, .unset, .unset] [(.int q4.toInt32), (.int 6), (.ref bn1)])) _
    refine XS.i2dS Xo25.here hx rfl (hb hby at_75) rfl rfl ?_
    refine sto29 _ ?_
    refine XS.aload Xo29.here hx rfl (hb hby at_77) rfl rfl ?_
    refine XS.bipush Xo29.here hx rfl (hb hby at_79) ?_
    refine XT.lload Xo29.here hx rfl (hb hby at_81) rfl ?_
    refine XS.bipush Xo29.here hx rfl (hb hby at_83) ?_
    refine XT.lushr Xo29.here hx rfl (hb hby at_85) rfl ?_
    show Steps p.tables e below (To29.setTop (mkF m 86 #[.val (.int p0), .val (.long q1), .second, .val (.long q2), .second, .val (.long q3), .second, .val (.long q4), .second, .val (.int (own_v0_0 p0)), .val (.ref bn1), .unset, .unset, .unset] [(.long (XT.ushrL q4 (32 : Int32))), (.int 7), (.ref bn1)])) _
    refine XT.l2i Xo29.here hx rfl (hb hby at_86) rfl ?_
    refine XS.i2dS Xo29.here hx rfl (hb hby at_87) rfl rfl ?_
    refine sto33 _ ?_
    exact kt
  rcases (show (own_v0_0 p0) = (0 : Int32) ∨ (own_v0_0 p0) = (1 : Int32) ∨ (own_v0_0 p0) = (2 : Int32) ∨ (own_v0_0 p0) = (3 : Int32) ∨ (own_v0_0 p0) = (4 : Int32) ∨ (own_v0_0 p0) = (5 : Int32) ∨ (own_v0_0 p0) = (6 : Int32) ∨ (own_v0_0 p0) = (7 : Int32) ∨ (own_v0_0 p0) = (8 : Int32) from own_cases p0) with hs35 | hs35 | hs35 | hs35 | hs35 | hs35 | hs35 | hs35 | hs35
  · have K36 : ∀ t, Steps p.tables e below (To33.setTop (mkF m 89 #[.val (.int p0), .val (.long q1), .second, .val (.long q2), .second, .val (.long q3), .second, .val (.long q4), .second, .val (.int 0), .val (.ref bn1), .unset, .unset, .unset] [])) t → Steps p.tables e below (To33.setTop (mkF m 89 #[.val (.int p0), .val (.long q1), .second, .val (.long q2), .second, .val (.long q3), .second, .val (.long q4), .second, .val (.int (own_v0_0 p0)), .val (.ref bn1), .unset, .unset, .unset] [])) t := by intro t kt; rw [hs35]; exact kt
    obtain ⟨Tn37, hn37, kn37, Xn37, en37, En37, An37, stn37⟩ := newP Xo33 hx hZ (own_W hw 1 rfl) eo33 (g := (mkF m 91 #[.val (.int p0), .val (.long q1), .second, .val (.long q2), .second, .val (.long q3), .second, .val (.long q4), .second, .val (.int 0), .val (.ref bn1), .unset, .unset, .unset] [(.int 0)])) rfl (hb hby at_91) rfl (by decide) (cap := 0) (by decide) (by decide) (by decide) (by decide)
    obtain ⟨bn37, gn37⟩ : ∃ z, z = ho33.size := ⟨_, rfl⟩
    rw [← gn37] at An37 stn37
    have g_bn37 : n0 ≤ bn37 := Nat.le_trans (Nat.le_trans Z0 sz34) (Nat.le_of_eq gn37.symm)
    have sz_bn37 : h0.size ≤ bn37 := Nat.le_trans sz34 (Nat.le_of_eq gn37.symm)
    have sz38 : h0.size ≤ hn37.size := Nat.le_trans sz34 En37.1
    have V_bn37 : Arv Z hn37 bn37 kn37 .double (0 : Int32) [] (.double 0) := (Arv.new An37 (by decide)).pad (pad_rep [] (.double 0) 0)
    obtain ⟨_, _, ⟨Tk39, Lk39, kk39, nk39⟩, -, Xk39, ⟨Lck39, hQk39, lk39, yk39, zk39⟩, stk39⟩ := Jvm.LawKit.callS Xn37 hx (y := (⟨"com/example/surepath/surepath/TravelTime$Lattices", "halved", "([D)[D"⟩ : MethodName)) hown (mvT hZ (own_W hw 2 rfl)) (mvT hZ (own_W hw 3 rfl)) (mvT hZ (own_W hw 4 rfl)) (mvT hZ (own_W hw 5 rfl)) (by decide) (backOf (W := 0) (own_rmh0 l Z a0 hw [] bn37 kn37 hn37 n0 (Nat.le_trans Z0 sz38) V_bn37) hZ (own_W hw 5 rfl) (own_W hw 4 rfl) (by decide) (by decide)) (g := (mkF m 214 #[.val (.int p0), .val (.long q1), .second, .val (.long q2), .second, .val (.long q3), .second, .val (.long q4), .second, .val (.int 0), .val (.ref bn1), .val (.ref bn37), .unset, .unset] [(.ref bn37)])) rfl (by rw [hml]; rfl) (argsL := [(.ref bn37)]) (rest := []) (lenOf own_pd1 rfl) rfl (by show 2 * 0 + _ ≤ _; exact Nat.le_of_eq rfl) (hb hby at_214) (fun _ _ => ⟨rfl, en37, (by decide : 2 + 1 ≤ _), (by decide : 8 + 1 ≤ _)⟩)
    dsimp only [Pt.U, Pt.locs, Pt.cells, Pt.slots] at Xk39 lk39 yk39 zk39 stk39 hQk39
    replace lk39 := lk39.symm; replace yk39 := yk39.symm; replace zk39 := zk39.symm; subst lk39 yk39 zk39
    obtain ⟨bk39_0, kk39_1, rfl, Nk39q, Kk39, lebk39_0, Qk39_0⟩ := hQk39
    have g_bk39_0 : n0 ≤ bk39_0 := Nat.le_trans (Nat.le_trans Z0 sz38) lebk39_0
    have sz_bk39_0 : h0.size ≤ bk39_0 := Nat.le_trans sz38 lebk39_0
    have sz40 : h0.size ≤ Tk39.heap.size := Nat.le_trans sz38 Kk39.1
    have Nk39 := Fr.app Nfo33 Nk39q
    obtain ⟨clo41, Aro41, qo41, So41, No41, Ho41, Go41⟩ := id Qk39_0
    have hi42 := inb_of (j := (0 : Int32)) So41 ⟨by decide, by decide⟩
    have ha43 : _ = some (Value.double (0 : UInt64)) := Ho41.at hi42 rfl
    obtain ⟨_, _, ⟨Tk44, Lk44, kk44, nk44⟩, -, Xk44, ⟨Lck44, hQk44, lk44, yk44, zk44⟩, stk44⟩ := Jvm.LawKit.callS Xk39 hx (y := (⟨"com/example/surepath/surepath/LatticesHalvedPinLaw", "expect", "([DII)D"⟩ : MethodName)) hown (mvT hZ (own_W hw 6 rfl)) (mvT hZ (own_W hw 7 rfl)) (mvT hZ (own_W hw 8 rfl)) (mvT hZ (own_W hw 9 rfl)) (by decide) (backOf (W := 2) (own_rmex00 l Z a0 hw [] bn1 (0 : Int32) Tk39.heap n0 (Nat.le_trans Z0 sz40) (c242_nn13 hs35) (by decide) (c242_nn22 hs35) (by decide) (c242_nn37 hs35)) hZ (own_W hw 9 rfl) (own_W hw 8 rfl) (by decide) (by decide)) (g := (mkF m 242 #[.val (.int p0), .val (.long q1), .second, .val (.long q2), .second, .val (.long q3), .second, .val (.long q4), .second, .val (.int 0), .val (.ref bn1), .val (.ref bn37), .val (.ref bk39_0), .unset] [(.int 0), (.int 0), (.ref bn1), (.double 0)])) rfl (by rw [hml]; rfl) (argsL := [(.ref bn1), (.int 0), (.int 0)]) (rest := [(.double 0)]) (lenOf own_pd0 rfl) rfl (by show 2 * 0 + _ ≤ _; exact Nat.le_of_eq rfl) (hb hby at_242) (fun _ _ => ⟨rfl, rfl, (by decide : 3 + 0 ≤ _), (by decide : 9 + 0 ≤ _)⟩)
    dsimp only [Pt.U, Pt.locs, Pt.cells, Pt.slots] at Xk44 lk44 yk44 zk44 stk44 hQk44
    replace lk44 := lk44.symm; replace yk44 := yk44.symm; replace zk44 := zk44.symm; subst lk44 yk44 zk44
    obtain ⟨rfl, Nk44q, ek44⟩ := hQk44
    have Nk44 := Fr.app Nk39 Nk44q
    obtain ⟨fs, hr, hrun, hended, hW, hsame⟩ := Xk44.leave (v := some (.int 1)) (fun h => by rw [Bd.returns] at h; cases h)
    refine ⟨_, _, pre0 _ (Ks35 _ (K36 _ (?_))), hrun, hended, _, _, rfl, ?_, ⟨_, rfl⟩, hW, hsame.mono (by decide) (by decide)⟩
    · show Steps p.tables e below (To33.setTop (mkF m 89 #[.val (.int p0), .val (.long q1), .second, .val (.long q2), .second, .val (.long q3), .second, .val (.long q4), .second, .val (.int 0), .val (.ref bn1), .unset, .unset, .unset] [])) _
      refine XS.iload Xo33.here hx rfl (hb hby at_89) rfl ?_
      refine stn37 _ ?_
      refine XS.astore Xn37.here hx rfl (hb hby at_93) rfl rfl (l' := #[.val (.int p0), .val (.long q1), .second, .val (.long q2), .second, .val (.long q3), .second, .val (.long q4), .second, .val (.int 0), .val (.ref bn1), .val (.ref bn37), .unset, .unset]) rfl ?_
      refine XS.iload Xn37.here hx rfl (hb hby at_95) rfl ?_
      refine XS.ifYes Xn37.here hx rfl (pc0 := 97) (pc' := 108) rfl (hb hby at_97) rfl (XT.i0_le_t (by decide : ¬ ((0 : Int32) < (0 : Int32)))) (by decide) (by decide) ?_
      refine XS.iload Xn37.here hx rfl (hb hby at_108) rfl ?_
      refine XS.iconst Xn37.here hx rfl (hb hby at_110) ?_
      refine XS.icmpYes Xn37.here hx rfl (pc0 := 111) (pc' := 122) rfl (hb hby at_111) rfl (XT.ii_le_t (by decide : ¬ ((1 : Int32) < (0 : Int32)))) (by decide) (by decide) ?_
      refine XS.iload Xn37.here hx rfl (hb hby at_122) rfl ?_
      refine XS.iconst Xn37.here hx rfl (hb hby at_124) ?_
      refine XS.icmpYes Xn37.here hx rfl (pc0 := 125) (pc' := 136) rfl (hb hby at_125) rfl (XT.ii_le_t (by decide : ¬ ((2 : Int32) < (0 : Int32)))) (by decide) (by decide) ?_
      refine XS.iload Xn37.here hx rfl (hb hby at_136) rfl ?_
      refine XS.iconst Xn37.here hx rfl (hb hby at_138) ?_
      refine XS.icmpYes Xn37.here hx rfl (pc0 := 139) (pc' := 150) rfl (hb hby at_139) rfl (XT.ii_le_t (by decide : ¬ ((3 : Int32) < (0 : Int32)))) (by decide) (by decide) ?_
      refine XS.iload Xn37.here hx rfl (hb hby at_150) rfl ?_
      refine XS.iconst Xn37.here hx rfl (hb hby at_152) ?_
      refine XS.icmpYes Xn37.here hx rfl (pc0 := 153) (pc' := 164) rfl (hb hby at_153) rfl (XT.ii_le_t (by decide : ¬ ((4 : Int32) < (0 : Int32)))) (by decide) (by decide) ?_
      refine XS.iload Xn37.here hx rfl (hb hby at_164) rfl ?_
      refine XS.iconst Xn37.here hx rfl (hb hby at_166) ?_
      refine XS.icmpYes Xn37.here hx rfl (pc0 := 167) (pc' := 178) rfl (hb hby at_167) rfl (XT.ii_le_t (by decide : ¬ ((5 : Int32) < (0 : Int32)))) (by decide) (by decide) ?_
      refine XS.iload Xn37.here hx rfl (hb hby at_178) rfl ?_
      refine XS.bipush Xn37.here hx rfl (hb hby at_180) ?_
      refine XS.icmpYes Xn37.here hx rfl (pc0 := 182) (pc' := 195) rfl (hb hby at_182) rfl (XT.ii_le_t (by decide : ¬ ((6 : Int32) < (0 : Int32)))) (by decide) (by decide) ?_
      refine XS.iload Xn37.here hx rfl (hb hby at_195) rfl ?_
      refine XS.bipush Xn37.here hx rfl (hb hby at_197) ?_
      refine XS.icmpYes Xn37.here hx rfl (pc0 := 199) (pc' := 212) rfl (hb hby at_199) rfl (XT.ii_le_t (by decide : ¬ ((7 : Int32) < (0 : Int32)))) (by decide) (by decide) ?_
      refine XS.aload Xn37.here hx rfl (hb hby at_212) rfl rfl ?_
      refine stk39 _ ?_
      show Steps p.tables e below (Tk39.setTop (mkF m 217 #[.val (.int p0), .val (.long q1), .second, .val (.long q2), .second, .val (.long q3), .second, .val (.long q4), .second, .val (.int 0), .val (.ref bn1), .val (.ref bn37), .unset, .unset] [(.ref bk39_0)])) _
      refine XS.astore Xk39.here hx rfl (hb hby at_217) rfl rfl (l' := #[.val (.int p0), .val (.long q1), .second, .val (.long q2), .second, .val (.long q3), .second, .val (.long q4), .second, .val (.int 0), .val (.ref bn1), .val (.ref bn37), .val (.ref bk39_0), .unset]) rfl ?_
      refine XS.aload Xk39.here hx rfl (hb hby at_219) rfl rfl ?_
      refine Xk39.arraylength hx Aro41.1 (State.isArrayOf_alike hZ.alike Aro41.2.1) (g := (mkF m 221 #[.val (.int p0), .val (.long q1), .second, .val (.long q2), .second, .val (.long q3), .second, .val (.long q4), .second, .val (.int 0), .val (.ref bn1), .val (.ref bn37), .val (.ref bk39_0), .unset] [(.ref bk39_0)])) rfl rfl (hb hby at_221) _ ?_
      rw [len_of So41 No41]
      show Steps p.tables e below (Tk39.setTop (mkF m 222 #[.val (.int p0), .val (.long q1), .second, .val (.long q2), .second, .val (.long q3), .second, .val (.long q4), .second, .val (.int 0), .val (.ref bn1), .val (.ref bn37), .val (.ref bk39_0), .unset] [(.int 1)])) _
      refine XS.iload Xk39.here hx rfl (hb hby at_222) rfl ?_
      refine XS.iconst Xk39.here hx rfl (hb hby at_224) ?_
      refine XS.idiv Xk39.here hx rfl (hb hby at_225) rfl (by decide) ?_
      show Steps p.tables e below (Tk39.setTop (mkF m 226 #[.val (.int p0), .val (.long q1), .second, .val (.long q2), .second, .val (.long q3), .second, .val (.long q4), .second, .val (.int 0), .val (.ref bn1), .val (.ref bn37), .val (.ref bk39_0), .unset] [(.int 0), (.int 1)])) _
      refine XS.iconst Xk39.here hx rfl (hb hby at_226) ?_
      refine XS.iadd Xk39.here hx rfl (hb hby at_227) rfl ?_
      refine XS.icmpYes Xk39.here hx rfl (pc0 := 228) (pc' := 233) rfl (hb hby at_228) rfl (XT.ii_eq_t (by decide : (1 : Int32) = (1 : Int32))) (by decide) (by decide) ?_
      refine XS.aload Xk39.here hx rfl (hb hby at_233) rfl rfl ?_
      refine XS.iconst Xk39.here hx rfl (hb hby at_235) ?_
      refine Xk39.daload hx (j := (0 : Int32)) (v := (.double 0)) Aro41.1 (State.isArrayOf_alike hZ.alike Aro41.2.1) Aro41.2.2 hi42 ha43 (g := (mkF m 236 #[.val (.int p0), .val (.long q1), .second, .val (.long q2), .second, .val (.long q3), .second, .val (.long q4), .second, .val (.int 0), .val (.ref bn1), .val (.ref bn37), .val (.ref bk39_0), .unset] [(.int 0), (.ref bk39_0)])) rfl rfl (hb hby at_236) _ ?_
      show Steps p.tables e below (Tk39.setTop (mkF m 237 #[.val (.int p0), .val (.long q1), .second, .val (.long q2), .second, .val (.long q3), .second, .val (.long q4), .second, .val (.int 0), .val (.ref bn1), .val (.ref bn37), .val (.ref bk39_0), .unset] [(.double 0)])) _
      refine XS.aload Xk39.here hx rfl (hb hby at_237) rfl rfl ?_
      refine XS.iload Xk39.here hx rfl (hb hby at_239) rfl ?_
      refine XS.iconst Xk39.here hx rfl (hb hby at_241) ?_
      refine stk44 _ ?_
      show Steps p.tables e below (Tk44.setTop (mkF m 245 #[.val (.int p0), .val (.long q1), .second, .val (.long q2), .second, .val (.long q3), .second, .val (.long q4), .second, .val (.int 0), .val (.ref bn1), .val (.ref bn37), .val (.ref bk39_0), .unset] [(.double own_rex00_0), (.double 0)])) _
      refine XS.dcmpS Xk44.here hx rfl (hb hby at_245) rfl rfl ?_
      refine XS.ifNo Xk44.here hx rfl (hb hby at_246) rfl (XT.i0_ne_f (hc246 hs35)) ?_
      refine XS.iconst Xk44.here hx rfl (hb hby at_249) ?_
      refine XS.goto Xk44.here hx rfl (pc0 := 250) (pc' := 254) rfl (hb hby at_250) (by decide) (by decide) ?_
      refine XS.istore Xk44.here hx rfl (hb hby at_254) rfl (l' := #[.val (.int p0), .val (.long q1), .second, .val (.long q2), .second, .val (.long q3), .second, .val (.long q4), .second, .val (.int 0), .val (.ref bn1), .val (.ref bn37), .val (.ref bk39_0), .val (.int 1)]) rfl ?_
      refine XS.aload Xk44.here hx rfl (hb hby at_256) rfl rfl ?_
      refine Xk44.arraylength hx (by rw [ek44]; exact Aro41.1) (State.isArrayOf_alike hZ.alike Aro41.2.1) (g := (mkF m 258 #[.val (.int p0), .val (.long q1), .second, .val (.long q2), .second, .val (.long q3), .second, .val (.long q4), .second, .val (.int 0), .val (.ref bn1), .val (.ref bn37), .val (.ref bk39_0), .val (.int 1)] [(.ref bk39_0)])) rfl rfl (hb hby at_258) _ ?_
      rw [len_of So41 No41]
      show Steps p.tables e below (Tk44.setTop (mkF m 259 #[.val (.int p0), .val (.long q1), .second, .val (.long q2), .second, .val (.long q3), .second, .val (.long q4), .second, .val (.int 0), .val (.ref bn1), .val (.ref bn37), .val (.ref bk39_0), .val (.int 1)] [(.int 1)])) _
      refine XS.iconst Xk44.here hx rfl (hb hby at_259) ?_
      refine XS.icmpYes Xk44.here hx rfl (pc0 := 260) (pc' := 291) rfl (hb hby at_260) rfl (XT.ii_le_t (by decide : ¬ ((1 : Int32) < (1 : Int32)))) (by decide) (by decide) ?_
      refine XS.aload Xk44.here hx rfl (hb hby at_291) rfl rfl ?_
      refine Xk44.arraylength hx (by rw [ek44]; exact Aro41.1) (State.isArrayOf_alike hZ.alike Aro41.2.1) (g := (mkF m 293 #[.val (.int p0), .val (.long q1), .second, .val (.long q2), .second, .val (.long q3), .second, .val (.long q4), .second, .val (.int 0), .val (.ref bn1), .val (.ref bn37), .val (.ref bk39_0), .val (.int 1)] [(.ref bk39_0)])) rfl rfl (hb hby at_293) _ ?_
      rw [len_of So41 No41]
      show Steps p.tables e below (Tk44.setTop (mkF m 294 #[.val (.int p0), .val (.long q1), .second, .val (.long q2), .second, .val (.long q3), .second, .val (.long q4), .second, .val (.int 0), .val (.ref bn1), .val (.ref bn37), .val (.ref bk39_0), .val (.int 1)] [(.int 1)])) _
      refine XS.iconst Xk44.here hx rfl (hb hby at_294) ?_
      refine XS.icmpYes Xk44.here hx rfl (pc0 := 295) (pc' := 326) rfl (hb hby at_295) rfl (XT.ii_le_t (by decide : ¬ ((2 : Int32) < (1 : Int32)))) (by decide) (by decide) ?_
      refine XS.aload Xk44.here hx rfl (hb hby at_326) rfl rfl ?_
      refine Xk44.arraylength hx (by rw [ek44]; exact Aro41.1) (State.isArrayOf_alike hZ.alike Aro41.2.1) (g := (mkF m 328 #[.val (.int p0), .val (.long q1), .second, .val (.long q2), .second, .val (.long q3), .second, .val (.long q4), .second, .val (.int 0), .val (.ref bn1), .val (.ref bn37), .val (.ref bk39_0), .val (.int 1)] [(.ref bk39_0)])) rfl rfl (hb hby at_328) _ ?_
      rw [len_of So41 No41]
      show Steps p.tables e below (Tk44.setTop (mkF m 329 #[.val (.int p0), .val (.long q1), .second, .val (.long q2), .second, .val (.long q3), .second, .val (.long q4), .second, .val (.int 0), .val (.ref bn1), .val (.ref bn37), .val (.ref bk39_0), .val (.int 1)] [(.int 1)])) _
      refine XS.iconst Xk44.here hx rfl (hb hby at_329) ?_
      refine XS.icmpYes Xk44.here hx rfl (pc0 := 330) (pc' := 361) rfl (hb hby at_330) rfl (XT.ii_le_t (by decide : ¬ ((3 : Int32) < (1 : Int32)))) (by decide) (by decide) ?_
      refine XS.aload Xk44.here hx rfl (hb hby at_361) rfl rfl ?_
      refine Xk44.arraylength hx (by rw [ek44]; exact Aro41.1) (State.isArrayOf_alike hZ.alike Aro41.2.1) (g := (mkF m 363 #[.val (.int p0), .val (.long q1), .second, .val (.long q2), .second, .val (.long q3), .second, .val (.long q4), .second, .val (.int 0), .val (.ref bn1), .val (.ref bn37), .val (.ref bk39_0), .val (.int 1)] [(.ref bk39_0)])) rfl rfl (hb hby at_363) _ ?_
      rw [len_of So41 No41]
      show Steps p.tables e below (Tk44.setTop (mkF m 364 #[.val (.int p0), .val (.long q1), .second, .val (.long q2), .second, .val (.long q3), .second, .val (.long q4), .second, .val (.int 0), .val (.ref bn1), .val (.ref bn37), .val (.ref bk39_0), .val (.int 1)] [(.int 1)])) _
      refine XS.iconst Xk44.here hx rfl (hb hby at_364) ?_
      refine XS.icmpYes Xk44.here hx rfl (pc0 := 365) (pc' := 396) rfl (hb hby at_365) rfl (XT.ii_le_t (by decide : ¬ ((4 : Int32) < (1 : Int32)))) (by decide) (by decide) ?_
      refine XS.iload Xk44.here hx rfl (hb hby at_396) rfl ?_
      show Steps p.tables e below (Tk44.setTop (mkF m 398 #[.val (.int p0), .val (.long q1), .second, .val (.long q2), .second, .val (.long q3), .second, .val (.long q4), .second, .val (.int 0), .val (.ref bn1), .val (.ref bn37), .val (.ref bk39_0), .val (.int 1)] [(.int 1)])) _
      exact retN Xk44 hx (t := .boolean) Bd.returns (by simp) (hb hby at_398) hr
    · show own_Q0 Z p0 q1 q2 q3 q4 h0 n0 _ Tk44.heap _
      rw [ek44]
      exact ⟨rfl, Nk44⟩
  · have K45 : ∀ t, Steps p.tables e below (To33.setTop (mkF m 89 #[.val (.int p0), .val (.long q1), .second, .val (.long q2), .second, .val (.long q3), .second, .val (.long q4), .second, .val (.int 1), .val (.ref bn1), .unset, .unset, .unset] [])) t → Steps p.tables e below (To33.setTop (mkF m 89 #[.val (.int p0), .val (.long q1), .second, .val (.long q2), .second, .val (.long q3), .second, .val (.long q4), .second, .val (.int (own_v0_0 p0)), .val (.ref bn1), .unset, .unset, .unset] [])) t := by intro t kt; rw [hs35]; exact kt
    obtain ⟨Tn46, hn46, kn46, Xn46, en46, En46, An46, stn46⟩ := newP Xo33 hx hZ (own_W hw 1 rfl) eo33 (g := (mkF m 91 #[.val (.int p0), .val (.long q1), .second, .val (.long q2), .second, .val (.long q3), .second, .val (.long q4), .second, .val (.int 1), .val (.ref bn1), .unset, .unset, .unset] [(.int 1)])) rfl (hb hby at_91) rfl (by decide) (cap := 1) (by decide) (by decide) (by decide) (by decide)
    obtain ⟨bn46, gn46⟩ : ∃ z, z = ho33.size := ⟨_, rfl⟩
    rw [← gn46] at An46 stn46
    have g_bn46 : n0 ≤ bn46 := Nat.le_trans (Nat.le_trans Z0 sz34) (Nat.le_of_eq gn46.symm)
    have sz_bn46 : h0.size ≤ bn46 := Nat.le_trans sz34 (Nat.le_of_eq gn46.symm)
    have sz47 : h0.size ≤ hn46.size := Nat.le_trans sz34 En46.1
    have V_bn46 : Arv Z hn46 bn46 kn46 .double (1 : Int32) [(.double 0)] (.double 0) := (Arv.new An46 (by decide)).pad (pad_rep [] (.double 0) 1)
    have F48 := (Vwo33.ext En46)
    obtain ⟨clo49, Aro49, qo49, So49, No49, Ho49, Go49⟩ := id F48
    have hi50 := inb_of (j := (0 : Int32)) So49 ⟨by decide, by decide⟩
    have ha51 : _ = some (Value.double (FP.i2d q1.toInt32)) := Ho49.at hi50 rfl
    obtain ⟨clo52, Aro52, qo52, So52, No52, Ho52, Go52⟩ := id V_bn46
    have hi53 := inb_of (j := (0 : Int32)) So52 ⟨by decide, by decide⟩
    obtain ⟨To54, ho54, Xo54, eo54, Wo54, sto54⟩ := stD Xn46 hx hZ en46 Aro52 (j := (0 : Int32)) hi53 (g := (mkF m 107 #[.val (.int p0), .val (.long q1), .second, .val (.long q2), .second, .val (.long q3), .second, .val (.long q4), .second, .val (.int 1), .val (.ref bn1), .val (.ref bn46), .unset, .unset] [(.double (FP.i2d q1.toInt32)), (.int 0), (.ref bn46)])) rfl rfl (hb hby at_107)
    have Vwo54 : Arv Z ho54 bn46 kn46 .double (1 : Int32) [(.double (FP.i2d q1.toInt32))] (.double 0) := Arv.set Aro52 qo52 So52 No52 Ho52 Go52 rfl Wo54 0 rfl (Nat.le_of_ble_eq_true rfl)
    have sz55 : h0.size ≤ ho54.size := Nat.le_trans sz47 (Nat.le_of_eq Wo54.size.symm)
    have Nfo54 := Fr.snoc Xo54 Nfo33 g_bn46
    obtain ⟨_, _, ⟨Tk56, Lk56, kk56, nk56⟩, -, Xk56, ⟨Lck56, hQk56, lk56, yk56, zk56⟩, stk56⟩ := Jvm.LawKit.callS Xo54 hx (y := (⟨"com/example/surepath/surepath/TravelTime$Lattices", "halved", "([D)[D"⟩ : MethodName)) hown (mvT hZ (own_W hw 2 rfl)) (mvT hZ (own_W hw 3 rfl)) (mvT hZ (own_W hw 4 rfl)) (mvT hZ (own_W hw 5 rfl)) (by decide) (backOf (W := 0) (own_rmh1 l Z a0 hw [] bn46 kn46 (FP.i2d q1.toInt32) ho54 n0 (Nat.le_trans Z0 sz55) Vwo54 (c214_nn32 hs35)) hZ (own_W hw 5 rfl) (own_W hw 4 rfl) (by decide) (by decide)) (g := (mkF m 214 #[.val (.int p0), .val (.long q1), .second, .val (.long q2), .second, .val (.long q3), .second, .val (.long q4), .second, .val (.int 1), .val (.ref bn1), .val (.ref bn46), .unset, .unset] [(.ref bn46)])) rfl (by rw [hml]; rfl) (argsL := [(.ref bn46)]) (rest := []) (lenOf own_pd1 rfl) rfl (by show 2 * 0 + _ ≤ _; exact Nat.le_of_eq rfl) (hb hby at_214) (fun _ _ => ⟨rfl, eo54, (by decide : 2 + 1 ≤ _), (by decide : 9 + 1 ≤ _)⟩)
    dsimp only [Pt.U, Pt.locs, Pt.cells, Pt.slots] at Xk56 lk56 yk56 zk56 stk56 hQk56
    replace lk56 := lk56.symm; replace yk56 := yk56.symm; replace zk56 := zk56.symm; subst lk56 yk56 zk56
    obtain ⟨bk56_0, kk56_1, rfl, Nk56q, Kk56, lebk56_0, Qk56_0⟩ := hQk56
    have g_bk56_0 : n0 ≤ bk56_0 := Nat.le_trans (Nat.le_trans Z0 sz55) lebk56_0
    have sz_bk56_0 : h0.size ≤ bk56_0 := Nat.le_trans sz55 lebk56_0
    have sz57 : h0.size ≤ Tk56.heap.size := Nat.le_trans sz55 Kk56.1
    have Nk56 := Fr.app Nfo54 Nk56q
    obtain ⟨clo58, Aro58, qo58, So58, No58, Ho58, Go58⟩ := id Qk56_0
    have hi59 := inb_of (j := (0 : Int32)) So58 ⟨by decide, by decide⟩
    have ha60 : _ = some (Value.double (FP.dadd (0 : UInt64) (FP.i2d q1.toInt32))) := Ho58.at hi59 rfl
    have ne62 : bn1 ≠ bn46 := (Nat.ne_of_lt (Nat.lt_of_lt_of_le Vwo33.lt (Nat.le_of_eq gn46.symm)))
    have F63 := ((F48.other Wo54 ne62).keep Kk56 nin0)
    obtain ⟨_, _, ⟨Tk61, Lk61, kk61, nk61⟩, -, Xk61, ⟨Lck61, hQk61, lk61, yk61, zk61⟩, stk61⟩ := Jvm.LawKit.callS Xk56 hx (y := (⟨"com/example/surepath/surepath/LatticesHalvedPinLaw", "expect", "([DII)D"⟩ : MethodName)) hown (mvT hZ (own_W hw 6 rfl)) (mvT hZ (own_W hw 7 rfl)) (mvT hZ (own_W hw 8 rfl)) (mvT hZ (own_W hw 9 rfl)) (by decide) (backOf (W := 2) (own_rmex01 l Z a0 hw [] bn1 (1 : Int32) kn1 (FP.i2d q1.toInt32) (own_v0_1 q1) (FP.i2d q2.toInt32) (own_v0_2 q2) (FP.i2d q3.toInt32) (own_v0_3 q3) (FP.i2d q4.toInt32) (own_v0_4 q4) Tk56.heap n0 (Nat.le_trans Z0 sz57) F63 (c242_nn13_2 hs35) (by decide) (c242_nn22_2 hs35) (by decide) (c242_nn37_2 hs35)) hZ (own_W hw 9 rfl) (own_W hw 8 rfl) (by decide) (by decide)) (g := (mkF m 242 #[.val (.int p0), .val (.long q1), .second, .val (.long q2), .second, .val (.long q3), .second, .val (.long q4), .second, .val (.int 1), .val (.ref bn1), .val (.ref bn46), .val (.ref bk56_0), .unset] [(.int 0), (.int 1), (.ref bn1), (.double (FP.dadd (0 : UInt64) (FP.i2d q1.toInt32)))])) rfl (by rw [hml]; rfl) (argsL := [(.ref bn1), (.int 1), (.int 0)]) (rest := [(.double (FP.dadd (0 : UInt64) (FP.i2d q1.toInt32)))]) (lenOf own_pd0 rfl) rfl (by show 2 * 0 + _ ≤ _; exact Nat.le_of_eq rfl) (hb hby at_242) (fun _ _ => ⟨rfl, rfl, (by decide : 3 + 0 ≤ _), (by decide : 10 + 0 ≤ _)⟩)
    dsimp only [Pt.U, Pt.locs, Pt.cells, Pt.slots] at Xk61 lk61 yk61 zk61 stk61 hQk61
    replace lk61 := lk61.symm; replace yk61 := yk61.symm; replace zk61 := zk61.symm; subst lk61 yk61 zk61
    obtain ⟨rfl, Nk61q, ek61⟩ := hQk61
    have Nk61 := Fr.app Nk56 Nk61q
    obtain ⟨fs, hr, hrun, hended, hW, hsame⟩ := Xk61.leave (v := some (.int 1)) (fun h => by rw [Bd.returns] at h; cases h)
    refine ⟨_, _, pre0 _ (Ks35 _ (K45 _ (?_))), hrun, hended, _, _, rfl, ?_, ⟨_, rfl⟩, hW, hsame.mono (by decide) (by decide)⟩
    · show Steps p.tables e below (To33.setTop (mkF m 89 #[.val (.int p0), .val (.long q1), .second, .val (.long q2), .second, .val (.long q3), .second, .val (.long q4), .second, .val (.int 1), .val (.ref bn1), .unset, .unset, .unset] [])) _
      refine XS.iload Xo33.here hx rfl (hb hby at_89) rfl ?_
      refine stn46 _ ?_
      refine XS.astore Xn46.here hx rfl (hb hby at_93) rfl rfl (l' := #[.val (.int p0), .val (.long q1), .second, .val (.long q2), .second, .val (.long q3), .second, .val (.long q4), .second, .val (.int 1), .val (.ref bn1), .val (.ref bn46), .unset, .unset]) rfl ?_
      refine XS.iload Xn46.here hx rfl (hb hby at_95) rfl ?_
      refine XS.ifNo Xn46.here hx rfl (hb hby at_97) rfl (XT.i0_le_f (by decide : (0 : Int32) < (1 : Int32))) ?_
      refine XS.aload Xn46.here hx rfl (hb hby at_100) rfl rfl ?_
      refine XS.iconst Xn46.here hx rfl (hb hby at_102) ?_
      refine XS.aload Xn46.here hx rfl (hb hby at_103) rfl rfl ?_
      refine XS.iconst Xn46.here hx rfl (hb hby at_105) ?_
      refine Xn46.daload hx (j := (0 : Int32)) (v := (.double (FP.i2d q1.toInt32))) (by rw [en46]; exact Aro49.1) (State.isArrayOf_alike hZ.alike Aro49.2.1) Aro49.2.2 hi50 ha51 (g := (mkF m 106 #[.val (.int p0), .val (.long q1), .second, .val (.long q2), .second, .val (.long q3), .second, .val (.long q4), .second, .val (.int 1), .val (.ref bn1), .val (.ref bn46), .unset, .unset] [(.int 0), (.ref bn1), (.int 0), (.ref bn46)])) rfl rfl (hb hby at_106) _ ?_
      show Steps p.tables e below (Tn46.setTop (mkF m 107 #[.val (.int p0), .val (.long q1), .second, .val (.long q2), .second, .val (.long q3), .second, .val (.long q4), .second, .val (.int 1), .val (.ref bn1), .val (.ref bn46), .unset, .unset] [(.double (FP.i2d q1.toInt32)), (.int 0), (.ref bn46)])) _
      refine sto54 _ ?_
      refine XS.iload Xo54.here hx rfl (hb hby at_108) rfl ?_
      refine XS.iconst Xo54.here hx rfl (hb hby at_110) ?_
      refine XS.icmpYes Xo54.here hx rfl (pc0 := 111) (pc' := 122) rfl (hb hby at_111) rfl (XT.ii_le_t (by decide : ¬ ((1 : Int32) < (1 : Int32)))) (by decide) (by decide) ?_
      refine XS.iload Xo54.here hx rfl (hb hby at_122) rfl ?_
      refine XS.iconst Xo54.here hx rfl (hb hby at_124) ?_
      refine XS.icmpYes Xo54.here hx rfl (pc0 := 125) (pc' := 136) rfl (hb hby at_125) rfl (XT.ii_le_t (by decide : ¬ ((2 : Int32) < (1 : Int32)))) (by decide) (by decide) ?_
      refine XS.iload Xo54.here hx rfl (hb hby at_136) rfl ?_
      refine XS.iconst Xo54.here hx rfl (hb hby at_138) ?_
      refine XS.icmpYes Xo54.here hx rfl (pc0 := 139) (pc' := 150) rfl (hb hby at_139) rfl (XT.ii_le_t (by decide : ¬ ((3 : Int32) < (1 : Int32)))) (by decide) (by decide) ?_
      refine XS.iload Xo54.here hx rfl (hb hby at_150) rfl ?_
      refine XS.iconst Xo54.here hx rfl (hb hby at_152) ?_
      refine XS.icmpYes Xo54.here hx rfl (pc0 := 153) (pc' := 164) rfl (hb hby at_153) rfl (XT.ii_le_t (by decide : ¬ ((4 : Int32) < (1 : Int32)))) (by decide) (by decide) ?_
      refine XS.iload Xo54.here hx rfl (hb hby at_164) rfl ?_
      refine XS.iconst Xo54.here hx rfl (hb hby at_166) ?_
      refine XS.icmpYes Xo54.here hx rfl (pc0 := 167) (pc' := 178) rfl (hb hby at_167) rfl (XT.ii_le_t (by decide : ¬ ((5 : Int32) < (1 : Int32)))) (by decide) (by decide) ?_
      refine XS.iload Xo54.here hx rfl (hb hby at_178) rfl ?_
      refine XS.bipush Xo54.here hx rfl (hb hby at_180) ?_
      refine XS.icmpYes Xo54.here hx rfl (pc0 := 182) (pc' := 195) rfl (hb hby at_182) rfl (XT.ii_le_t (by decide : ¬ ((6 : Int32) < (1 : Int32)))) (by decide) (by decide) ?_
      refine XS.iload Xo54.here hx rfl (hb hby at_195) rfl ?_
      refine XS.bipush Xo54.here hx rfl (hb hby at_197) ?_
      refine XS.icmpYes Xo54.here hx rfl (pc0 := 199) (pc' := 212) rfl (hb hby at_199) rfl (XT.ii_le_t (by decide : ¬ ((7 : Int32) < (1 : Int32)))) (by decide) (by decide) ?_
      refine XS.aload Xo54.here hx rfl (hb hby at_212) rfl rfl ?_
      refine stk56 _ ?_
      show Steps p.tables e below (Tk56.setTop (mkF m 217 #[.val (.int p0), .val (.long q1), .second, .val (.long q2), .second, .val (.long q3), .second, .val (.long q4), .second, .val (.int 1), .val (.ref bn1), .val (.ref bn46), .unset, .unset] [(.ref bk56_0)])) _
      refine XS.astore Xk56.here hx rfl (hb hby at_217) rfl rfl (l' := #[.val (.int p0), .val (.long q1), .second, .val (.long q2), .second, .val (.long q3), .second, .val (.long q4), .second, .val (.int 1), .val (.ref bn1), .val (.ref bn46), .val (.ref bk56_0), .unset]) rfl ?_
      refine XS.aload Xk56.here hx rfl (hb hby at_219) rfl rfl ?_
      refine Xk56.arraylength hx Aro58.1 (State.isArrayOf_alike hZ.alike Aro58.2.1) (g := (mkF m 221 #[.val (.int p0), .val (.long q1), .second, .val (.long q2), .second, .val (.long q3), .second, .val (.long q4), .second, .val (.int 1), .val (.ref bn1), .val (.ref bn46), .val (.ref bk56_0), .unset] [(.ref bk56_0)])) rfl rfl (hb hby at_221) _ ?_
      rw [len_of So58 No58]
      show Steps p.tables e below (Tk56.setTop (mkF m 222 #[.val (.int p0), .val (.long q1), .second, .val (.long q2), .second, .val (.long q3), .second, .val (.long q4), .second, .val (.int 1), .val (.ref bn1), .val (.ref bn46), .val (.ref bk56_0), .unset] [(.int 1)])) _
      refine XS.iload Xk56.here hx rfl (hb hby at_222) rfl ?_
      refine XS.iconst Xk56.here hx rfl (hb hby at_224) ?_
      refine XS.idiv Xk56.here hx rfl (hb hby at_225) rfl (by decide) ?_
      show Steps p.tables e below (Tk56.setTop (mkF m 226 #[.val (.int p0), .val (.long q1), .second, .val (.long q2), .second, .val (.long q3), .second, .val (.long q4), .second, .val (.int 1), .val (.ref bn1), .val (.ref bn46), .val (.ref bk56_0), .unset] [(.int 0), (.int 1)])) _
      refine XS.iconst Xk56.here hx rfl (hb hby at_226) ?_
      refine XS.iadd Xk56.here hx rfl (hb hby at_227) rfl ?_
      refine XS.icmpYes Xk56.here hx rfl (pc0 := 228) (pc' := 233) rfl (hb hby at_228) rfl (XT.ii_eq_t (by decide : (1 : Int32) = (1 : Int32))) (by decide) (by decide) ?_
      refine XS.aload Xk56.here hx rfl (hb hby at_233) rfl rfl ?_
      refine XS.iconst Xk56.here hx rfl (hb hby at_235) ?_
      refine Xk56.daload hx (j := (0 : Int32)) (v := (.double (FP.dadd (0 : UInt64) (FP.i2d q1.toInt32)))) Aro58.1 (State.isArrayOf_alike hZ.alike Aro58.2.1) Aro58.2.2 hi59 ha60 (g := (mkF m 236 #[.val (.int p0), .val (.long q1), .second, .val (.long q2), .second, .val (.long q3), .second, .val (.long q4), .second, .val (.int 1), .val (.ref bn1), .val (.ref bn46), .val (.ref bk56_0), .unset] [(.int 0), (.ref bk56_0)])) rfl rfl (hb hby at_236) _ ?_
      show Steps p.tables e below (Tk56.setTop (mkF m 237 #[.val (.int p0), .val (.long q1), .second, .val (.long q2), .second, .val (.long q3), .second, .val (.long q4), .second, .val (.int 1), .val (.ref bn1), .val (.ref bn46), .val (.ref bk56_0), .unset] [(.double (FP.dadd (0 : UInt64) (FP.i2d q1.toInt32)))])) _
      refine XS.aload Xk56.here hx rfl (hb hby at_237) rfl rfl ?_
      refine XS.iload Xk56.here hx rfl (hb hby at_239) rfl ?_
      refine XS.iconst Xk56.here hx rfl (hb hby at_241) ?_
      refine stk61 _ ?_
      show Steps p.tables e below (Tk61.setTop (mkF m 245 #[.val (.int p0), .val (.long q1), .second, .val (.long q2), .second, .val (.long q3), .second, .val (.long q4), .second, .val (.int 1), .val (.ref bn1), .val (.ref bn46), .val (.ref bk56_0), .unset] [(.double (own_rex01_0 (FP.i2d q1.toInt32))), (.double (FP.dadd (0 : UInt64) (FP.i2d q1.toInt32)))])) _
      refine XS.dcmpS Xk61.here hx rfl (hb hby at_245) rfl rfl ?_
      refine XS.ifNo Xk61.here hx rfl (hb hby at_246) rfl (XT.i0_ne_f (hc246_2 hs35)) ?_
      refine XS.iconst Xk61.here hx rfl (hb hby at_249) ?_
      refine XS.goto Xk61.here hx rfl (pc0 := 250) (pc' := 254) rfl (hb hby at_250) (by decide) (by decide) ?_
      refine XS.istore Xk61.here hx rfl (hb hby at_254) rfl (l' := #[.val (.int p0), .val (.long q1), .second, .val (.long q2), .second, .val (.long q3), .second, .val (.long q4), .second, .val (.int 1), .val (.ref bn1), .val (.ref bn46), .val (.ref bk56_0), .val (.int 1)]) rfl ?_
      refine XS.aload Xk61.here hx rfl (hb hby at_256) rfl rfl ?_
      refine Xk61.arraylength hx (by rw [ek61]; exact Aro58.1) (State.isArrayOf_alike hZ.alike Aro58.2.1) (g := (mkF m 258 #[.val (.int p0), .val (.long q1), .second, .val (.long q2), .second, .val (.long q3), .second, .val (.long q4), .second, .val (.int 1), .val (.ref bn1), .val (.ref bn46), .val (.ref bk56_0), .val (.int 1)] [(.ref bk56_0)])) rfl rfl (hb hby at_258) _ ?_
      rw [len_of So58 No58]
      show Steps p.tables e below (Tk61.setTop (mkF m 259 #[.val (.int p0), .val (.long q1), .second, .val (.long q2), .second, .val (.long q3), .second, .val (.long q4), .second, .val (.int 1), .val (.ref bn1), .val (.ref bn46), .val (.ref bk56_0), .val (.int 1)] [(.int 1)])) _
      refine XS.iconst Xk61.here hx rfl (hb hby at_259) ?_
      refine XS.icmpYes Xk61.here hx rfl (pc0 := 260) (pc' := 291) rfl (hb hby at_260) rfl (XT.ii_le_t (by decide : ¬ ((1 : Int32) < (1 : Int32)))) (by decide) (by decide) ?_
      refine XS.aload Xk61.here hx rfl (hb hby at_291) rfl rfl ?_
      refine Xk61.arraylength hx (by rw [ek61]; exact Aro58.1) (State.isArrayOf_alike hZ.alike Aro58.2.1) (g := (mkF m 293 #[.val (.int p0), .val (.long q1), .second, .val (.long q2), .second, .val (.long q3), .second, .val (.long q4), .second, .val (.int 1), .val (.ref bn1), .val (.ref bn46), .val (.ref bk56_0), .val (.int 1)] [(.ref bk56_0)])) rfl rfl (hb hby at_293) _ ?_
      rw [len_of So58 No58]
      show Steps p.tables e below (Tk61.setTop (mkF m 294 #[.val (.int p0), .val (.long q1), .second, .val (.long q2), .second, .val (.long q3), .second, .val (.long q4), .second, .val (.int 1), .val (.ref bn1), .val (.ref bn46), .val (.ref bk56_0), .val (.int 1)] [(.int 1)])) _
      refine XS.iconst Xk61.here hx rfl (hb hby at_294) ?_
      refine XS.icmpYes Xk61.here hx rfl (pc0 := 295) (pc' := 326) rfl (hb hby at_295) rfl (XT.ii_le_t (by decide : ¬ ((2 : Int32) < (1 : Int32)))) (by decide) (by decide) ?_
      refine XS.aload Xk61.here hx rfl (hb hby at_326) rfl rfl ?_
      refine Xk61.arraylength hx (by rw [ek61]; exact Aro58.1) (State.isArrayOf_alike hZ.alike Aro58.2.1) (g := (mkF m 328 #[.val (.int p0), .val (.long q1), .second, .val (.long q2), .second, .val (.long q3), .second, .val (.long q4), .second, .val (.int 1), .val (.ref bn1), .val (.ref bn46), .val (.ref bk56_0), .val (.int 1)] [(.ref bk56_0)])) rfl rfl (hb hby at_328) _ ?_
      rw [len_of So58 No58]
      show Steps p.tables e below (Tk61.setTop (mkF m 329 #[.val (.int p0), .val (.long q1), .second, .val (.long q2), .second, .val (.long q3), .second, .val (.long q4), .second, .val (.int 1), .val (.ref bn1), .val (.ref bn46), .val (.ref bk56_0), .val (.int 1)] [(.int 1)])) _
      refine XS.iconst Xk61.here hx rfl (hb hby at_329) ?_
      refine XS.icmpYes Xk61.here hx rfl (pc0 := 330) (pc' := 361) rfl (hb hby at_330) rfl (XT.ii_le_t (by decide : ¬ ((3 : Int32) < (1 : Int32)))) (by decide) (by decide) ?_
      refine XS.aload Xk61.here hx rfl (hb hby at_361) rfl rfl ?_
      refine Xk61.arraylength hx (by rw [ek61]; exact Aro58.1) (State.isArrayOf_alike hZ.alike Aro58.2.1) (g := (mkF m 363 #[.val (.int p0), .val (.long q1), .second, .val (.long q2), .second, .val (.long q3), .second, .val (.long q4), .second, .val (.int 1), .val (.ref bn1), .val (.ref bn46), .val (.ref bk56_0), .val (.int 1)] [(.ref bk56_0)])) rfl rfl (hb hby at_363) _ ?_
      rw [len_of So58 No58]
      show Steps p.tables e below (Tk61.setTop (mkF m 364 #[.val (.int p0), .val (.long q1), .second, .val (.long q2), .second, .val (.long q3), .second, .val (.long q4), .second, .val (.int 1), .val (.ref bn1), .val (.ref bn46), .val (.ref bk56_0), .val (.int 1)] [(.int 1)])) _
      refine XS.iconst Xk61.here hx rfl (hb hby at_364) ?_
      refine XS.icmpYes Xk61.here hx rfl (pc0 := 365) (pc' := 396) rfl (hb hby at_365) rfl (XT.ii_le_t (by decide : ¬ ((4 : Int32) < (1 : Int32)))) (by decide) (by decide) ?_
      refine XS.iload Xk61.here hx rfl (hb hby at_396) rfl ?_
      show Steps p.tables e below (Tk61.setTop (mkF m 398 #[.val (.int p0), .val (.long q1), .second, .val (.long q2), .second, .val (.long q3), .second, .val (.long q4), .second, .val (.int 1), .val (.ref bn1), .val (.ref bn46), .val (.ref bk56_0), .val (.int 1)] [(.int 1)])) _
      exact retN Xk61 hx (t := .boolean) Bd.returns (by simp) (hb hby at_398) hr
    · show own_Q0 Z p0 q1 q2 q3 q4 h0 n0 _ Tk61.heap _
      rw [ek61]
      exact ⟨rfl, Nk61⟩
  · have K64 : ∀ t, Steps p.tables e below (To33.setTop (mkF m 89 #[.val (.int p0), .val (.long q1), .second, .val (.long q2), .second, .val (.long q3), .second, .val (.long q4), .second, .val (.int 2), .val (.ref bn1), .unset, .unset, .unset] [])) t → Steps p.tables e below (To33.setTop (mkF m 89 #[.val (.int p0), .val (.long q1), .second, .val (.long q2), .second, .val (.long q3), .second, .val (.long q4), .second, .val (.int (own_v0_0 p0)), .val (.ref bn1), .unset, .unset, .unset] [])) t := by intro t kt; rw [hs35]; exact kt
    obtain ⟨Tn65, hn65, kn65, Xn65, en65, En65, An65, stn65⟩ := newP Xo33 hx hZ (own_W hw 1 rfl) eo33 (g := (mkF m 91 #[.val (.int p0), .val (.long q1), .second, .val (.long q2), .second, .val (.long q3), .second, .val (.long q4), .second, .val (.int 2), .val (.ref bn1), .unset, .unset, .unset] [(.int 2)])) rfl (hb hby at_91) rfl (by decide) (cap := 2) (by decide) (by decide) (by decide) (by decide)
    obtain ⟨bn65, gn65⟩ : ∃ z, z = ho33.size := ⟨_, rfl⟩
    rw [← gn65] at An65 stn65
    have g_bn65 : n0 ≤ bn65 := Nat.le_trans (Nat.le_trans Z0 sz34) (Nat.le_of_eq gn65.symm)
    have sz_bn65 : h0.size ≤ bn65 := Nat.le_trans sz34 (Nat.le_of_eq gn65.symm)
    have sz66 : h0.size ≤ hn65.size := Nat.le_trans sz34 En65.1
    have V_bn65 : Arv Z hn65 bn65 kn65 .double (2 : Int32) [(.double 0), (.double 0)] (.double 0) := (Arv.new An65 (by decide)).pad (pad_rep [] (.double 0) 2)
    have F67 := (Vwo33.ext En65)
    obtain ⟨clo68, Aro68, qo68, So68, No68, Ho68, Go68⟩ := id F67
    have hi69 := inb_of (j := (0 : Int32)) So68 ⟨by decide, by decide⟩
    have ha70 : _ = some (Value.double (FP.i2d q1.toInt32)) := Ho68.at hi69 rfl
    obtain ⟨clo71, Aro71, qo71, So71, No71, Ho71, Go71⟩ := id V_bn65
    have hi72 := inb_of (j := (0 : Int32)) So71 ⟨by decide, by decide⟩
    obtain ⟨To73, ho73, Xo73, eo73, Wo73, sto73⟩ := stD Xn65 hx hZ en65 Aro71 (j := (0 : Int32)) hi72 (g := (mkF m 107 #[.val (.int p0), .val (.long q1), .second, .val (.long q2), .second, .val (.long q3), .second, .val (.long q4), .second, .val (.int 2), .val (.ref bn1), .val (.ref bn65), .unset, .unset] [(.double (FP.i2d q1.toInt32)), (.int 0), (.ref bn65)])) rfl rfl (hb hby at_107)
    have Vwo73 : Arv Z ho73 bn65 kn65 .double (2 : Int32) [(.double (FP.i2d q1.toInt32)), (.double 0)] (.double 0) := Arv.set Aro71 qo71 So71 No71 Ho71 Go71 rfl Wo73 0 rfl (Nat.le_of_ble_eq_true rfl)
    have sz74 : h0.size ≤ ho73.size := Nat.le_trans sz66 (Nat.le_of_eq Wo73.size.symm)
    have Nfo73 := Fr.snoc Xo73 Nfo33 g_bn65
    have ne75 : bn1 ≠ bn65 := (Nat.ne_of_lt (Nat.lt_of_lt_of_le Vwo33.lt (Nat.le_of_eq gn65.symm)))
    have F76 := (F67.other Wo73 ne75)
    obtain ⟨clo77, Aro77, qo77, So77, No77, Ho77, Go77⟩ := id F76
    have hi78 := inb_of (j := (1 : Int32)) So77 ⟨by decide, by decide⟩
    have ha79 : _ = some (Value.double (own_v0_1 q1)) := Ho77.at hi78 rfl
    obtain ⟨clo80, Aro80, qo80, So80, No80, Ho80, Go80⟩ := id Vwo73
    have hi81 := inb_of (j := (1 : Int32)) So80 ⟨by decide, by decide⟩
    obtain ⟨To82, ho82, Xo82, eo82, Wo82, sto82⟩ := stD Xo73 hx hZ eo73 Aro80 (j := (1 : Int32)) hi81 (g := (mkF m 121 #[.val (.int p0), .val (.long q1), .second, .val (.long q2), .second, .val (.long q3), .second, .val (.long q4), .second, .val (.int 2), .val (.ref bn1), .val (.ref bn65), .unset, .unset] [(.double (own_v0_1 q1)), (.int 1), (.ref bn65)])) rfl rfl (hb hby at_121)
    have Vwo82 : Arv Z ho82 bn65 kn65 .double (2 : Int32) [(.double (FP.i2d q1.toInt32)), (.double (own_v0_1 q1))] (.double 0) := Arv.set Aro80 qo80 So80 No80 Ho80 Go80 rfl Wo82 1 rfl (Nat.le_of_ble_eq_true rfl)
    have sz83 : h0.size ≤ ho82.size := Nat.le_trans sz74 (Nat.le_of_eq Wo82.size.symm)
    have Nfo82 := Fr.snoc Xo82 Nfo73 g_bn65
    obtain ⟨_, _, ⟨Tk84, Lk84, kk84, nk84⟩, -, Xk84, ⟨Lck84, hQk84, lk84, yk84, zk84⟩, stk84⟩ := Jvm.LawKit.callS Xo82 hx (y := (⟨"com/example/surepath/surepath/TravelTime$Lattices", "halved", "([D)[D"⟩ : MethodName)) hown (mvT hZ (own_W hw 2 rfl)) (mvT hZ (own_W hw 3 rfl)) (mvT hZ (own_W hw 4 rfl)) (mvT hZ (own_W hw 5 rfl)) (by decide) (backOf (W := 0) (own_rmh2 l Z a0 hw [] bn65 kn65 (FP.i2d q1.toInt32) (own_v0_1 q1) ho82 n0 (Nat.le_trans Z0 sz83) Vwo82 (c214_nn32_2 hs35) (c214_nn49 hs35) (c214_nn50 hs35) (c214_nn67 hs35)) hZ (own_W hw 5 rfl) (own_W hw 4 rfl) (by decide) (by decide)) (g := (mkF m 214 #[.val (.int p0), .val (.long q1), .second, .val (.long q2), .second, .val (.long q3), .second, .val (.long q4), .second, .val (.int 2), .val (.ref bn1), .val (.ref bn65), .unset, .unset] [(.ref bn65)])) rfl (by rw [hml]; rfl) (argsL := [(.ref bn65)]) (rest := []) (lenOf own_pd1 rfl) rfl (by show 2 * 0 + _ ≤ _; exact Nat.le_of_eq rfl) (hb hby at_214) (fun _ _ => ⟨rfl, eo82, (by decide : 2 + 1 ≤ _), (by decide : 10 + 2 ≤ _)⟩)
    dsimp only [Pt.U, Pt.locs, Pt.cells, Pt.slots] at Xk84 lk84 yk84 zk84 stk84 hQk84
    replace lk84 := lk84.symm; replace yk84 := yk84.symm; replace zk84 := zk84.symm; subst lk84 yk84 zk84
    obtain ⟨bk84_0, kk84_1, rfl, Nk84q, Kk84, lebk84_0, Qk84_0⟩ := hQk84
    have g_bk84_0 : n0 ≤ bk84_0 := Nat.le_trans (Nat.le_trans Z0 sz83) lebk84_0
    have sz_bk84_0 : h0.size ≤ bk84_0 := Nat.le_trans sz83 lebk84_0
    have sz85 : h0.size ≤ Tk84.heap.size := Nat.le_trans sz83 Kk84.1
    have Nk84 := Fr.app Nfo82 Nk84q
    obtain ⟨clo86, Aro86, qo86, So86, No86, Ho86, Go86⟩ := id Qk84_0
    have hi87 := inb_of (j := (0 : Int32)) So86 ⟨by decide, by decide⟩
    have ha88 : _ = some (Value.double (own_vh2_0 (FP.i2d q1.toInt32) (own_v0_1 q1))) := Ho86.at hi87 rfl
    have F90 := ((F76.other Wo82 ne75).keep Kk84 nin0)
    obtain ⟨_, _, ⟨Tk89, Lk89, kk89, nk89⟩, -, Xk89, ⟨Lck89, hQk89, lk89, yk89, zk89⟩, stk89⟩ := Jvm.LawKit.callS Xk84 hx (y := (⟨"com/example/surepath/surepath/LatticesHalvedPinLaw", "expect", "([DII)D"⟩ : MethodName)) hown (mvT hZ (own_W hw 6 rfl)) (mvT hZ (own_W hw 7 rfl)) (mvT hZ (own_W hw 8 rfl)) (mvT hZ (own_W hw 9 rfl)) (by decide) (backOf (W := 2) (own_rmex02 l Z a0 hw [] bn1 (2 : Int32) kn1 (FP.i2d q1.toInt32) (own_v0_1 q1) (FP.i2d q2.toInt32) (own_v0_2 q2) (FP.i2d q3.toInt32) (own_v0_3 q3) (FP.i2d q4.toInt32) (own_v0_4 q4) Tk84.heap n0 (Nat.le_trans Z0 sz85) F90 (c242_nn13_3 hs35) (by decide) (c242_nn22_3 hs35) (by decide) (c214_nn49 hs35) (c242_nn37_3 hs35)) hZ (own_W hw 9 rfl) (own_W hw 8 rfl) (by decide) (by decide)) (g := (mkF m 242 #[.val (.int p0), .val (.long q1), .second, .val (.long q2), .second, .val (.long q3), .second, .val (.long q4), .second, .val (.int 2), .val (.ref bn1), .val (.ref bn65), .val (.ref bk84_0), .unset] [(.int 0), (.int 2), (.ref bn1), (.double (own_vh2_0 (FP.i2d q1.toInt32) (own_v0_1 q1)))])) rfl (by rw [hml]; rfl) (argsL := [(.ref bn1), (.int 2), (.int 0)]) (rest := [(.double (own_vh2_0 (FP.i2d q1.toInt32) (own_v0_1 q1)))]) (lenOf own_pd0 rfl) rfl (by show 2 * 0 + _ ≤ _; exact Nat.le_of_eq rfl) (hb hby at_242) (fun _ _ => ⟨rfl, rfl, (by decide : 3 + 0 ≤ _), (by decide : 12 + 0 ≤ _)⟩)
    dsimp only [Pt.U, Pt.locs, Pt.cells, Pt.slots] at Xk89 lk89 yk89 zk89 stk89 hQk89
    replace lk89 := lk89.symm; replace yk89 := yk89.symm; replace zk89 := zk89.symm; subst lk89 yk89 zk89
    obtain ⟨rfl, Nk89q, ek89⟩ := hQk89
    have Nk89 := Fr.app Nk84 Nk89q
    have hi91 := inb_of (j := (1 : Int32)) So86 ⟨by decide, by decide⟩
    have ha92 : _ = some (Value.double (own_vh2_1 (own_v0_1 q1))) := Ho86.at hi91 rfl
    obtain ⟨_, _, ⟨Tk93, Lk93, kk93, nk93⟩, -, Xk93, ⟨Lck93, hQk93, lk93, yk93, zk93⟩, stk93⟩ := Jvm.LawKit.callS Xk89 hx (y := (⟨"com/example/surepath/surepath/LatticesHalvedPinLaw", "expect", "([DII)D"⟩ : MethodName)) hown (mvT hZ (own_W hw 6 rfl)) (mvT hZ (own_W hw 7 rfl)) (mvT hZ (own_W hw 8 rfl)) (mvT hZ (own_W hw 9 rfl)) (by decide) (backOf (W := 2) (own_rmex12 l Z a0 hw [] bn1 (2 : Int32) kn1 (FP.i2d q1.toInt32) (own_v0_1 q1) (FP.i2d q2.toInt32) (own_v0_2 q2) (FP.i2d q3.toInt32) (own_v0_3 q3) (FP.i2d q4.toInt32) (own_v0_4 q4) Tk84.heap n0 (Nat.le_trans Z0 sz85) F90 (by decide) (c214_nn49 hs35) (by decide) (c277_nn22 hs35) (by decide) (c242_nn13_3 hs35) (c277_nn37 hs35)) hZ (own_W hw 9 rfl) (own_W hw 8 rfl) (by decide) (by decide)) (g := (mkF m 277 #[.val (.int p0), .val (.long q1), .second, .val (.long q2), .second, .val (.long q3), .second, .val (.long q4), .second, .val (.int 2), .val (.ref bn1), .val (.ref bn65), .val (.ref bk84_0), .val (.int 1)] [(.int 1), (.int 2), (.ref bn1), (.double (own_vh2_1 (own_v0_1 q1)))])) rfl (by rw [hml]; rfl) (argsL := [(.ref bn1), (.int 2), (.int 1)]) (rest := [(.double (own_vh2_1 (own_v0_1 q1)))]) (lenOf own_pd0 rfl) rfl (by show 2 * 0 + _ ≤ _; exact Nat.le_of_eq rfl) (hb hby at_277) (fun _ _ => ⟨rfl, ek89, (by decide : 3 + 0 ≤ _), (by decide : 12 + 0 ≤ _)⟩)
    dsimp only [Pt.U, Pt.locs, Pt.cells, Pt.slots] at Xk93 lk93 yk93 zk93 stk93 hQk93
    replace lk93 := lk93.symm; replace yk93 := yk93.symm; replace zk93 := zk93.symm; subst lk93 yk93 zk93
    obtain ⟨rfl, Nk93q, ek93⟩ := hQk93
    have Nk93 := Fr.app Nk89 Nk93q
    obtain ⟨fs, hr, hrun, hended, hW, hsame⟩ := Xk93.leave (v := some (.int 1)) (fun h => by rw [Bd.returns] at h; cases h)
    refine ⟨_, _, pre0 _ (Ks35 _ (K64 _ (?_))), hrun, hended, _, _, rfl, ?_, ⟨_, rfl⟩, hW, hsame.mono (by decide) (by decide)⟩
    · show Steps p.tables e below (To33.setTop (mkF m 89 #[.val (.int p0), .val (.long q1), .second, .val (.long q2), .second, .val (.long q3), .second, .val (.long q4), .second, .val (.int 2), .val (.ref bn1), .unset, .unset, .unset] [])) _
      refine XS.iload Xo33.here hx rfl (hb hby at_89) rfl ?_
      refine stn65 _ ?_
      refine XS.astore Xn65.here hx rfl (hb hby at_93) rfl rfl (l' := #[.val (.int p0), .val (.long q1), .second, .val (.long q2), .second, .val (.long q3), .second, .val (.long q4), .second, .val (.int 2), .val (.ref bn1), .val (.ref bn65), .unset, .unset]) rfl ?_
      refine XS.iload Xn65.here hx rfl (hb hby at_95) rfl ?_
      refine XS.ifNo Xn65.here hx rfl (hb hby at_97) rfl (XT.i0_le_f (by decide : (0 : Int32) < (2 : Int32))) ?_
      refine XS.aload Xn65.here hx rfl (hb hby at_100) rfl rfl ?_
      refine XS.iconst Xn65.here hx rfl (hb hby at_102) ?_
      refine XS.aload Xn65.here hx rfl (hb hby at_103) rfl rfl ?_
      refine XS.iconst Xn65.here hx rfl (hb hby at_105) ?_
      refine Xn65.daload hx (j := (0 : Int32)) (v := (.double (FP.i2d q1.toInt32))) (by rw [en65]; exact Aro68.1) (State.isArrayOf_alike hZ.alike Aro68.2.1) Aro68.2.2 hi69 ha70 (g := (mkF m 106 #[.val (.int p0), .val (.long q1), .second, .val (.long q2), .second, .val (.long q3), .second, .val (.long q4), .second, .val (.int 2), .val (.ref bn1), .val (.ref bn65), .unset, .unset] [(.int 0), (.ref bn1), (.int 0), (.ref bn65)])) rfl rfl (hb hby at_106) _ ?_
      show Steps p.tables e below (Tn65.setTop (mkF m 107 #[.val (.int p0), .val (.long q1), .second, .val (.long q2), .second, .val (.long q3), .second, .val (.long q4), .second, .val (.int 2), .val (.ref bn1), .val (.ref bn65), .unset, .unset] [(.double (FP.i2d q1.toInt32)), (.int 0), (.ref bn65)])) _
      refine sto73 _ ?_
      refine XS.iload Xo73.here hx rfl (hb hby at_108) rfl ?_
      refine XS.iconst Xo73.here hx rfl (hb hby at_110) ?_
      refine XS.icmpNo Xo73.here hx rfl (hb hby at_111) rfl (XT.ii_le_f (by decide : (1 : Int32) < (2 : Int32))) ?_
      refine XS.aload Xo73.here hx rfl (hb hby at_114) rfl rfl ?_
      refine XS.iconst Xo73.here hx rfl (hb hby at_116) ?_
      refine XS.aload Xo73.here hx rfl (hb hby at_117) rfl rfl ?_
      refine XS.iconst Xo73.here hx rfl (hb hby at_119) ?_
      refine Xo73.daload hx (j := (1 : Int32)) (v := (.double (own_v0_1 q1))) (by rw [eo73]; exact Aro77.1) (State.isArrayOf_alike hZ.alike Aro77.2.1) Aro77.2.2 hi78 ha79 (g := (mkF m 120 #[.val (.int p0), .val (.long q1), .second, .val (.long q2), .second, .val (.long q3), .second, .val (.long q4), .second, .val (.int 2), .val (.ref bn1), .val (.ref bn65), .unset, .unset] [(.int 1), (.ref bn1), (.int 1), (.ref bn65)])) rfl rfl (hb hby at_120) _ ?_
      show Steps p.tables e below (To73.setTop (mkF m 121 #[.val (.int p0), .val (.long q1), .second, .val (.long q2), .second, .val (.long q3), .second, .val (.long q4), .second, .val (.int 2), .val (.ref bn1), .val (.ref bn65), .unset, .unset] [(.double (own_v0_1 q1)), (.int 1), (.ref bn65)])) _
      refine sto82 _ ?_
      refine XS.iload Xo82.here hx rfl (hb hby at_122) rfl ?_
      refine XS.iconst Xo82.here hx rfl (hb hby at_124) ?_
      refine XS.icmpYes Xo82.here hx rfl (pc0 := 125) (pc' := 136) rfl (hb hby at_125) rfl (XT.ii_le_t (by decide : ¬ ((2 : Int32) < (2 : Int32)))) (by decide) (by decide) ?_
      refine XS.iload Xo82.here hx rfl (hb hby at_136) rfl ?_
      refine XS.iconst Xo82.here hx rfl (hb hby at_138) ?_
      refine XS.icmpYes Xo82.here hx rfl (pc0 := 139) (pc' := 150) rfl (hb hby at_139) rfl (XT.ii_le_t (by decide : ¬ ((3 : Int32) < (2 : Int32)))) (by decide) (by decide) ?_
      refine XS.iload Xo82.here hx rfl (hb hby at_150) rfl ?_
      refine XS.iconst Xo82.here hx rfl (hb hby at_152) ?_
      refine XS.icmpYes Xo82.here hx rfl (pc0 := 153) (pc' := 164) rfl (hb hby at_153) rfl (XT.ii_le_t (by decide : ¬ ((4 : Int32) < (2 : Int32)))) (by decide) (by decide) ?_
      refine XS.iload Xo82.here hx rfl (hb hby at_164) rfl ?_
      refine XS.iconst Xo82.here hx rfl (hb hby at_166) ?_
      refine XS.icmpYes Xo82.here hx rfl (pc0 := 167) (pc' := 178) rfl (hb hby at_167) rfl (XT.ii_le_t (by decide : ¬ ((5 : Int32) < (2 : Int32)))) (by decide) (by decide) ?_
      refine XS.iload Xo82.here hx rfl (hb hby at_178) rfl ?_
      refine XS.bipush Xo82.here hx rfl (hb hby at_180) ?_
      refine XS.icmpYes Xo82.here hx rfl (pc0 := 182) (pc' := 195) rfl (hb hby at_182) rfl (XT.ii_le_t (by decide : ¬ ((6 : Int32) < (2 : Int32)))) (by decide) (by decide) ?_
      refine XS.iload Xo82.here hx rfl (hb hby at_195) rfl ?_
      refine XS.bipush Xo82.here hx rfl (hb hby at_197) ?_
      refine XS.icmpYes Xo82.here hx rfl (pc0 := 199) (pc' := 212) rfl (hb hby at_199) rfl (XT.ii_le_t (by decide : ¬ ((7 : Int32) < (2 : Int32)))) (by decide) (by decide) ?_
      refine XS.aload Xo82.here hx rfl (hb hby at_212) rfl rfl ?_
      refine stk84 _ ?_
      show Steps p.tables e below (Tk84.setTop (mkF m 217 #[.val (.int p0), .val (.long q1), .second, .val (.long q2), .second, .val (.long q3), .second, .val (.long q4), .second, .val (.int 2), .val (.ref bn1), .val (.ref bn65), .unset, .unset] [(.ref bk84_0)])) _
      refine XS.astore Xk84.here hx rfl (hb hby at_217) rfl rfl (l' := #[.val (.int p0), .val (.long q1), .second, .val (.long q2), .second, .val (.long q3), .second, .val (.long q4), .second, .val (.int 2), .val (.ref bn1), .val (.ref bn65), .val (.ref bk84_0), .unset]) rfl ?_
      refine XS.aload Xk84.here hx rfl (hb hby at_219) rfl rfl ?_
      refine Xk84.arraylength hx Aro86.1 (State.isArrayOf_alike hZ.alike Aro86.2.1) (g := (mkF m 221 #[.val (.int p0), .val (.long q1), .second, .val (.long q2), .second, .val (.long q3), .second, .val (.long q4), .second, .val (.int 2), .val (.ref bn1), .val (.ref bn65), .val (.ref bk84_0), .unset] [(.ref bk84_0)])) rfl rfl (hb hby at_221) _ ?_
      rw [len_of So86 No86]
      show Steps p.tables e below (Tk84.setTop (mkF m 222 #[.val (.int p0), .val (.long q1), .second, .val (.long q2), .second, .val (.long q3), .second, .val (.long q4), .second, .val (.int 2), .val (.ref bn1), .val (.ref bn65), .val (.ref bk84_0), .unset] [(.int 2)])) _
      refine XS.iload Xk84.here hx rfl (hb hby at_222) rfl ?_
      refine XS.iconst Xk84.here hx rfl (hb hby at_224) ?_
      refine XS.idiv Xk84.here hx rfl (hb hby at_225) rfl (by decide) ?_
      show Steps p.tables e below (Tk84.setTop (mkF m 226 #[.val (.int p0), .val (.long q1), .second, .val (.long q2), .second, .val (.long q3), .second, .val (.long q4), .second, .val (.int 2), .val (.ref bn1), .val (.ref bn65), .val (.ref bk84_0), .unset] [(.int 1), (.int 2)])) _
      refine XS.iconst Xk84.here hx rfl (hb hby at_226) ?_
      refine XS.iadd Xk84.here hx rfl (hb hby at_227) rfl ?_
      refine XS.icmpYes Xk84.here hx rfl (pc0 := 228) (pc' := 233) rfl (hb hby at_228) rfl (XT.ii_eq_t (by decide : (2 : Int32) = (2 : Int32))) (by decide) (by decide) ?_
      refine XS.aload Xk84.here hx rfl (hb hby at_233) rfl rfl ?_
      refine XS.iconst Xk84.here hx rfl (hb hby at_235) ?_
      refine Xk84.daload hx (j := (0 : Int32)) (v := (.double (own_vh2_0 (FP.i2d q1.toInt32) (own_v0_1 q1)))) Aro86.1 (State.isArrayOf_alike hZ.alike Aro86.2.1) Aro86.2.2 hi87 ha88 (g := (mkF m 236 #[.val (.int p0), .val (.long q1), .second, .val (.long q2), .second, .val (.long q3), .second, .val (.long q4), .second, .val (.int 2), .val (.ref bn1), .val (.ref bn65), .val (.ref bk84_0), .unset] [(.int 0), (.ref bk84_0)])) rfl rfl (hb hby at_236) _ ?_
      show Steps p.tables e below (Tk84.setTop (mkF m 237 #[.val (.int p0), .val (.long q1), .second, .val (.long q2), .second, .val (.long q3), .second, .val (.long q4), .second, .val (.int 2), .val (.ref bn1), .val (.ref bn65), .val (.ref bk84_0), .unset] [(.double (own_vh2_0 (FP.i2d q1.toInt32) (own_v0_1 q1)))])) _
      refine XS.aload Xk84.here hx rfl (hb hby at_237) rfl rfl ?_
      refine XS.iload Xk84.here hx rfl (hb hby at_239) rfl ?_
      refine XS.iconst Xk84.here hx rfl (hb hby at_241) ?_
      refine stk89 _ ?_
      show Steps p.tables e below (Tk89.setTop (mkF m 245 #[.val (.int p0), .val (.long q1), .second, .val (.long q2), .second, .val (.long q3), .second, .val (.long q4), .second, .val (.int 2), .val (.ref bn1), .val (.ref bn65), .val (.ref bk84_0), .unset] [(.double (own_rex02_0 (FP.i2d q1.toInt32) (own_v0_1 q1))), (.double (own_vh2_0 (FP.i2d q1.toInt32) (own_v0_1 q1)))])) _
      refine XS.dcmpS Xk89.here hx rfl (hb hby at_245) rfl rfl ?_
      refine XS.ifNo Xk89.here hx rfl (hb hby at_246) rfl (XT.i0_ne_f (hc246_3 hs35)) ?_
      refine XS.iconst Xk89.here hx rfl (hb hby at_249) ?_
      refine XS.goto Xk89.here hx rfl (pc0 := 250) (pc' := 254) rfl (hb hby at_250) (by decide) (by decide) ?_
      refine XS.istore Xk89.here hx rfl (hb hby at_254) rfl (l' := #[.val (.int p0), .val (.long q1), .second, .val (.long q2), .second, .val (.long q3), .second, .val (.long q4), .second, .val (.int 2), .val (.ref bn1), .val (.ref bn65), .val (.ref bk84_0), .val (.int 1)]) rfl ?_
      refine XS.aload Xk89.here hx rfl (hb hby at_256) rfl rfl ?_
      refine Xk89.arraylength hx (by rw [ek89]; exact Aro86.1) (State.isArrayOf_alike hZ.alike Aro86.2.1) (g := (mkF m 258 #[.val (.int p0), .val (.long q1), .second, .val (.long q2), .second, .val (.long q3), .second, .val (.long q4), .second, .val (.int 2), .val (.ref bn1), .val (.ref bn65), .val (.ref bk84_0), .val (.int 1)] [(.ref bk84_0)])) rfl rfl (hb hby at_258) _ ?_
      rw [len_of So86 No86]
      show Steps p.tables e below (Tk89.setTop (mkF m 259 #[.val (.int p0), .val (.long q1), .second, .val (.long q2), .second, .val (.long q3), .second, .val (.long q4), .second, .val (.int 2), .val (.ref bn1), .val (.ref bn65), .val (.ref bk84_0), .val (.int 1)] [(.int 2)])) _
      refine XS.iconst Xk89.here hx rfl (hb hby at_259) ?_
      refine XS.icmpNo Xk89.here hx rfl (hb hby at_260) rfl (XT.ii_le_f (by decide : (1 : Int32) < (2 : Int32))) ?_
      refine XS.iload Xk89.here hx rfl (hb hby at_263) rfl ?_
      refine XS.ifNo Xk89.here hx rfl (hb hby at_265) rfl (XT.i0_eq_f (by decide : ¬ ((1 : Int32) = (0 : Int32)))) ?_
      refine XS.aload Xk89.here hx rfl (hb hby at_268) rfl rfl ?_
      refine XS.iconst Xk89.here hx rfl (hb hby at_270) ?_
      refine Xk89.daload hx (j := (1 : Int32)) (v := (.double (own_vh2_1 (own_v0_1 q1)))) (by rw [ek89]; exact Aro86.1) (State.isArrayOf_alike hZ.alike Aro86.2.1) Aro86.2.2 hi91 ha92 (g := (mkF m 271 #[.val (.int p0), .val (.long q1), .second, .val (.long q2), .second, .val (.long q3), .second, .val (.long q4), .second, .val (.int 2), .val (.ref bn1), .val (.ref bn65), .val (.ref bk84_0), .val (.int 1)] [(.int 1), (.ref bk84_0)])) rfl rfl (hb hby at_271) _ ?_
      show Steps p.tables e below (Tk89.setTop (mkF m 272 #[.val (.int p0), .val (.long q1), .second, .val (.long q2), .second, .val (.long q3), .second, .val (.long q4), .second, .val (.int 2), .val (.ref bn1), .val (.ref bn65), .val (.ref bk84_0), .val (.int 1)] [(.double (own_vh2_1 (own_v0_1 q1)))])) _
      refine XS.aload Xk89.here hx rfl (hb hby at_272) rfl rfl ?_
      refine XS.iload Xk89.here hx rfl (hb hby at_274) rfl ?_
      refine XS.iconst Xk89.here hx rfl (hb hby at_276) ?_
      refine stk93 _ ?_
      show Steps p.tables e below (Tk93.setTop (mkF m 280 #[.val (.int p0), .val (.long q1), .second, .val (.long q2), .second, .val (.long q3), .second, .val (.long q4), .second, .val (.int 2), .val (.ref bn1), .val (.ref bn65), .val (.ref bk84_0), .val (.int 1)] [(.double (own_rex12_0 (own_v0_1 q1))), (.double (own_vh2_1 (own_v0_1 q1)))])) _
      refine XS.dcmpS Xk93.here hx rfl (hb hby at_280) rfl rfl ?_
      refine XS.ifNo Xk93.here hx rfl (hb hby at_281) rfl (XT.i0_ne_f (hc281 hs35)) ?_
      refine XS.iconst Xk93.here hx rfl (hb hby at_284) ?_
      refine XS.goto Xk93.here hx rfl (pc0 := 285) (pc' := 289) rfl (hb hby at_285) (by decide) (by decide) ?_
      refine XS.istore Xk93.here hx rfl (hb hby at_289) rfl (l' := #[.val (.int p0), .val (.long q1), .second, .val (.long q2), .second, .val (.long q3), .second, .val (.long q4), .second, .val (.int 2), .val (.ref bn1), .val (.ref bn65), .val (.ref bk84_0), .val (.int 1)]) rfl ?_
      refine XS.aload Xk93.here hx rfl (hb hby at_291) rfl rfl ?_
      refine Xk93.arraylength hx (by rw [ek93]; exact Aro86.1) (State.isArrayOf_alike hZ.alike Aro86.2.1) (g := (mkF m 293 #[.val (.int p0), .val (.long q1), .second, .val (.long q2), .second, .val (.long q3), .second, .val (.long q4), .second, .val (.int 2), .val (.ref bn1), .val (.ref bn65), .val (.ref bk84_0), .val (.int 1)] [(.ref bk84_0)])) rfl rfl (hb hby at_293) _ ?_
      rw [len_of So86 No86]
      show Steps p.tables e below (Tk93.setTop (mkF m 294 #[.val (.int p0), .val (.long q1), .second, .val (.long q2), .second, .val (.long q3), .second, .val (.long q4), .second, .val (.int 2), .val (.ref bn1), .val (.ref bn65), .val (.ref bk84_0), .val (.int 1)] [(.int 2)])) _
      refine XS.iconst Xk93.here hx rfl (hb hby at_294) ?_
      refine XS.icmpYes Xk93.here hx rfl (pc0 := 295) (pc' := 326) rfl (hb hby at_295) rfl (XT.ii_le_t (by decide : ¬ ((2 : Int32) < (2 : Int32)))) (by decide) (by decide) ?_
      refine XS.aload Xk93.here hx rfl (hb hby at_326) rfl rfl ?_
      refine Xk93.arraylength hx (by rw [ek93]; exact Aro86.1) (State.isArrayOf_alike hZ.alike Aro86.2.1) (g := (mkF m 328 #[.val (.int p0), .val (.long q1), .second, .val (.long q2), .second, .val (.long q3), .second, .val (.long q4), .second, .val (.int 2), .val (.ref bn1), .val (.ref bn65), .val (.ref bk84_0), .val (.int 1)] [(.ref bk84_0)])) rfl rfl (hb hby at_328) _ ?_
      rw [len_of So86 No86]
      show Steps p.tables e below (Tk93.setTop (mkF m 329 #[.val (.int p0), .val (.long q1), .second, .val (.long q2), .second, .val (.long q3), .second, .val (.long q4), .second, .val (.int 2), .val (.ref bn1), .val (.ref bn65), .val (.ref bk84_0), .val (.int 1)] [(.int 2)])) _
      refine XS.iconst Xk93.here hx rfl (hb hby at_329) ?_
      refine XS.icmpYes Xk93.here hx rfl (pc0 := 330) (pc' := 361) rfl (hb hby at_330) rfl (XT.ii_le_t (by decide : ¬ ((3 : Int32) < (2 : Int32)))) (by decide) (by decide) ?_
      refine XS.aload Xk93.here hx rfl (hb hby at_361) rfl rfl ?_
      refine Xk93.arraylength hx (by rw [ek93]; exact Aro86.1) (State.isArrayOf_alike hZ.alike Aro86.2.1) (g := (mkF m 363 #[.val (.int p0), .val (.long q1), .second, .val (.long q2), .second, .val (.long q3), .second, .val (.long q4), .second, .val (.int 2), .val (.ref bn1), .val (.ref bn65), .val (.ref bk84_0), .val (.int 1)] [(.ref bk84_0)])) rfl rfl (hb hby at_363) _ ?_
      rw [len_of So86 No86]
      show Steps p.tables e below (Tk93.setTop (mkF m 364 #[.val (.int p0), .val (.long q1), .second, .val (.long q2), .second, .val (.long q3), .second, .val (.long q4), .second, .val (.int 2), .val (.ref bn1), .val (.ref bn65), .val (.ref bk84_0), .val (.int 1)] [(.int 2)])) _
      refine XS.iconst Xk93.here hx rfl (hb hby at_364) ?_
      refine XS.icmpYes Xk93.here hx rfl (pc0 := 365) (pc' := 396) rfl (hb hby at_365) rfl (XT.ii_le_t (by decide : ¬ ((4 : Int32) < (2 : Int32)))) (by decide) (by decide) ?_
      refine XS.iload Xk93.here hx rfl (hb hby at_396) rfl ?_
      show Steps p.tables e below (Tk93.setTop (mkF m 398 #[.val (.int p0), .val (.long q1), .second, .val (.long q2), .second, .val (.long q3), .second, .val (.long q4), .second, .val (.int 2), .val (.ref bn1), .val (.ref bn65), .val (.ref bk84_0), .val (.int 1)] [(.int 1)])) _
      exact retN Xk93 hx (t := .boolean) Bd.returns (by simp) (hb hby at_398) hr
    · show own_Q0 Z p0 q1 q2 q3 q4 h0 n0 _ Tk93.heap _
      rw [ek93]
      exact ⟨rfl, Nk93⟩
  · have K94 : ∀ t, Steps p.tables e below (To33.setTop (mkF m 89 #[.val (.int p0), .val (.long q1), .second, .val (.long q2), .second, .val (.long q3), .second, .val (.long q4), .second, .val (.int 3), .val (.ref bn1), .unset, .unset, .unset] [])) t → Steps p.tables e below (To33.setTop (mkF m 89 #[.val (.int p0), .val (.long q1), .second, .val (.long q2), .second, .val (.long q3), .second, .val (.long q4), .second, .val (.int (own_v0_0 p0)), .val (.ref bn1), .unset, .unset, .unset] [])) t := by intro t kt; rw [hs35]; exact kt
    obtain ⟨Tn95, hn95, kn95, Xn95, en95, En95, An95, stn95⟩ := newP Xo33 hx hZ (own_W hw 1 rfl) eo33 (g := (mkF m 91 #[.val (.int p0), .val (.long q1), .second, .val (.long q2), .second, .val (.long q3), .second, .val (.long q4), .second, .val (.int 3), .val (.ref bn1), .unset, .unset, .unset] [(.int 3)])) rfl (hb hby at_91) rfl (by decide) (cap := 3) (by decide) (by decide) (by decide) (by decide)
    obtain ⟨bn95, gn95⟩ : ∃ z, z = ho33.size := ⟨_, rfl⟩
    rw [← gn95] at An95 stn95
    have g_bn95 : n0 ≤ bn95 := Nat.le_trans (Nat.le_trans Z0 sz34) (Nat.le_of_eq gn95.symm)
    have sz_bn95 : h0.size ≤ bn95 := Nat.le_trans sz34 (Nat.le_of_eq gn95.symm)
    have sz96 : h0.size ≤ hn95.size := Nat.le_trans sz34 En95.1
    have V_bn95 : Arv Z hn95 bn95 kn95 .double (3 : Int32) [(.double 0), (.double 0), (.double 0)] (.double 0) := (Arv.new An95 (by decide)).pad (pad_rep [] (.double 0) 3)
    have F97 := (Vwo33.ext En95)
    obtain ⟨clo98, Aro98, qo98, So98, No98, Ho98, Go98⟩ := id F97
    have hi99 := inb_of (j := (0 : Int32)) So98 ⟨by decide, by decide⟩
    have ha100 : _ = some (Value.double (FP.i2d q1.toInt32)) := Ho98.at hi99 rfl
    obtain ⟨clo101, Aro101, qo101, So101, No101, Ho101, Go101⟩ := id V_bn95
    have hi102 := inb_of (j := (0 : Int32)) So101 ⟨by decide, by decide⟩
    obtain ⟨To103, ho103, Xo103, eo103, Wo103, sto103⟩ := stD Xn95 hx hZ en95 Aro101 (j := (0 : Int32)) hi102 (g := (mkF m 107 #[.val (.int p0), .val (.long q1), .second, .val (.long q2), .second, .val (.long q3), .second, .val (.long q4), .second, .val (.int 3), .val (.ref bn1), .val (.ref bn95), .unset, .unset] [(.double (FP.i2d q1.toInt32)), (.int 0), (.ref bn95)])) rfl rfl (hb hby at_107)
    have Vwo103 : Arv Z ho103 bn95 kn95 .double (3 : Int32) [(.double (FP.i2d q1.toInt32)), (.double 0), (.double 0)] (.double 0) := Arv.set Aro101 qo101 So101 No101 Ho101 Go101 rfl Wo103 0 rfl (Nat.le_of_ble_eq_true rfl)
    have sz104 : h0.size ≤ ho103.size := Nat.le_trans sz96 (Nat.le_of_eq Wo103.size.symm)
    have Nfo103 := Fr.snoc Xo103 Nfo33 g_bn95
    have ne105 : bn1 ≠ bn95 := (Nat.ne_of_lt (Nat.lt_of_lt_of_le Vwo33.lt (Nat.le_of_eq gn95.symm)))
    have F106 := (F97.other Wo103 ne105)
    obtain ⟨clo107, Aro107, qo107, So107, No107, Ho107, Go107⟩ := id F106
    have hi108 := inb_of (j := (1 : Int32)) So107 ⟨by decide, by decide⟩
    have ha109 : _ = some (Value.double (own_v0_1 q1)) := Ho107.at hi108 rfl
    obtain ⟨clo110, Aro110, qo110, So110, No110, Ho110, Go110⟩ := id Vwo103
    have hi111 := inb_of (j := (1 : Int32)) So110 ⟨by decide, by decide⟩
    obtain ⟨To112, ho112, Xo112, eo112, Wo112, sto112⟩ := stD Xo103 hx hZ eo103 Aro110 (j := (1 : Int32)) hi111 (g := (mkF m 121 #[.val (.int p0), .val (.long q1), .second, .val (.long q2), .second, .val (.long q3), .second, .val (.long q4), .second, .val (.int 3), .val (.ref bn1), .val (.ref bn95), .unset, .unset] [(.double (own_v0_1 q1)), (.int 1), (.ref bn95)])) rfl rfl (hb hby at_121)
    have Vwo112 : Arv Z ho112 bn95 kn95 .double (3 : Int32) [(.double (FP.i2d q1.toInt32)), (.double (own_v0_1 q1)), (.double 0)] (.double 0) := Arv.set Aro110 qo110 So110 No110 Ho110 Go110 rfl Wo112 1 rfl (Nat.le_of_ble_eq_true rfl)
    have sz113 : h0.size ≤ ho112.size := Nat.le_trans sz104 (Nat.le_of_eq Wo112.size.symm)
    have Nfo112 := Fr.snoc Xo112 Nfo103 g_bn95
    have F114 := (F106.other Wo112 ne105)
    obtain ⟨clo115, Aro115, qo115, So115, No115, Ho115, Go115⟩ := id F114
    have hi116 := inb_of (j := (2 : Int32)) So115 ⟨by decide, by decide⟩
    have ha117 : _ = some (Value.double (FP.i2d q2.toInt32)) := Ho115.at hi116 rfl
    obtain ⟨clo118, Aro118, qo118, So118, No118, Ho118, Go118⟩ := id Vwo112
    have hi119 := inb_of (j := (2 : Int32)) So118 ⟨by decide, by decide⟩
    obtain ⟨To120, ho120, Xo120, eo120, Wo120, sto120⟩ := stD Xo112 hx hZ eo112 Aro118 (j := (2 : Int32)) hi119 (g := (mkF m 135 #[.val (.int p0), .val (.long q1), .second, .val (.long q2), .second, .val (.long q3), .second, .val (.long q4), .second, .val (.int 3), .val (.ref bn1), .val (.ref bn95), .unset, .unset] [(.double (FP.i2d q2.toInt32)), (.int 2), (.ref bn95)])) rfl rfl (hb hby at_135)
    have Vwo120 : Arv Z ho120 bn95 kn95 .double (3 : Int32) [(.double (FP.i2d q1.toInt32)), (.double (own_v0_1 q1)), (.double (FP.i2d q2.toInt32))] (.double 0) := Arv.set Aro118 qo118 So118 No118 Ho118 Go118 rfl Wo120 2 rfl (Nat.le_of_ble_eq_true rfl)
    have sz121 : h0.size ≤ ho120.size := Nat.le_trans sz113 (Nat.le_of_eq Wo120.size.symm)
    have Nfo120 := Fr.snoc Xo120 Nfo112 g_bn95
    obtain ⟨_, _, ⟨Tk122, Lk122, kk122, nk122⟩, -, Xk122, ⟨Lck122, hQk122, lk122, yk122, zk122⟩, stk122⟩ := Jvm.LawKit.callS Xo120 hx (y := (⟨"com/example/surepath/surepath/TravelTime$Lattices", "halved", "([D)[D"⟩ : MethodName)) hown (mvT hZ (own_W hw 2 rfl)) (mvT hZ (own_W hw 3 rfl)) (mvT hZ (own_W hw 4 rfl)) (mvT hZ (own_W hw 5 rfl)) (by decide) (backOf (W := 0) (own_rmh3 l Z a0 hw [] bn95 kn95 (FP.i2d q1.toInt32) (own_v0_1 q1) (FP.i2d q2.toInt32) ho120 n0 (Nat.le_trans Z0 sz121) Vwo120 (c214_nn32_3 hs35) (c214_nn49_2 hs35) (c214_nn50_2 hs35) (c214_nn67_2 hs35) (c214_nn32_2_2 hs35)) hZ (own_W hw 5 rfl) (own_W hw 4 rfl) (by decide) (by decide)) (g := (mkF m 214 #[.val (.int p0), .val (.long q1), .second, .val (.long q2), .second, .val (.long q3), .second, .val (.long q4), .second, .val (.int 3), .val (.ref bn1), .val (.ref bn95), .unset, .unset] [(.ref bn95)])) rfl (by rw [hml]; rfl) (argsL := [(.ref bn95)]) (rest := []) (lenOf own_pd1 rfl) rfl (by show 2 * 0 + _ ≤ _; exact Nat.le_of_eq rfl) (hb hby at_214) (fun _ _ => ⟨rfl, eo120, (by decide : 2 + 1 ≤ _), (by decide : 11 + 2 ≤ _)⟩)
    dsimp only [Pt.U, Pt.locs, Pt.cells, Pt.slots] at Xk122 lk122 yk122 zk122 stk122 hQk122
    replace lk122 := lk122.symm; replace yk122 := yk122.symm; replace zk122 := zk122.symm; subst lk122 yk122 zk122
    obtain ⟨bk122_0, kk122_1, rfl, Nk122q, Kk122, lebk122_0, Qk122_0⟩ := hQk122
    have g_bk122_0 : n0 ≤ bk122_0 := Nat.le_trans (Nat.le_trans Z0 sz121) lebk122_0
    have sz_bk122_0 : h0.size ≤ bk122_0 := Nat.le_trans sz121 lebk122_0
    have sz123 : h0.size ≤ Tk122.heap.size := Nat.le_trans sz121 Kk122.1
    have Nk122 := Fr.app Nfo120 Nk122q
    obtain ⟨clo124, Aro124, qo124, So124, No124, Ho124, Go124⟩ := id Qk122_0
    have hi125 := inb_of (j := (0 : Int32)) So124 ⟨by decide, by decide⟩
    have ha126 : _ = some (Value.double (own_vh3_0 (FP.i2d q1.toInt32) (own_v0_1 q1))) := Ho124.at hi125 rfl
    have F128 := ((F114.other Wo120 ne105).keep Kk122 nin0)
    obtain ⟨_, _, ⟨Tk127, Lk127, kk127, nk127⟩, -, Xk127, ⟨Lck127, hQk127, lk127, yk127, zk127⟩, stk127⟩ := Jvm.LawKit.callS Xk122 hx (y := (⟨"com/example/surepath/surepath/LatticesHalvedPinLaw", "expect", "([DII)D"⟩ : MethodName)) hown (mvT hZ (own_W hw 6 rfl)) (mvT hZ (own_W hw 7 rfl)) (mvT hZ (own_W hw 8 rfl)) (mvT hZ (own_W hw 9 rfl)) (by decide) (backOf (W := 2) (own_rmex02 l Z a0 hw [] bn1 (3 : Int32) kn1 (FP.i2d q1.toInt32) (own_v0_1 q1) (FP.i2d q2.toInt32) (own_v0_2 q2) (FP.i2d q3.toInt32) (own_v0_3 q3) (FP.i2d q4.toInt32) (own_v0_4 q4) Tk122.heap n0 (Nat.le_trans Z0 sz123) F128 (c242_nn13_4 hs35) (by decide) (c242_nn22_4 hs35) (by decide) (c214_nn49_2 hs35) (c242_nn37_4 hs35)) hZ (own_W hw 9 rfl) (own_W hw 8 rfl) (by decide) (by decide)) (g := (mkF m 242 #[.val (.int p0), .val (.long q1), .second, .val (.long q2), .second, .val (.long q3), .second, .val (.long q4), .second, .val (.int 3), .val (.ref bn1), .val (.ref bn95), .val (.ref bk122_0), .unset] [(.int 0), (.int 3), (.ref bn1), (.double (own_vh3_0 (FP.i2d q1.toInt32) (own_v0_1 q1)))])) rfl (by rw [hml]; rfl) (argsL := [(.ref bn1), (.int 3), (.int 0)]) (rest := [(.double (own_vh3_0 (FP.i2d q1.toInt32) (own_v0_1 q1)))]) (lenOf own_pd0 rfl) rfl (by show 2 * 0 + _ ≤ _; exact Nat.le_of_eq rfl) (hb hby at_242) (fun _ _ => ⟨rfl, rfl, (by decide : 3 + 0 ≤ _), (by decide : 13 + 0 ≤ _)⟩)
    dsimp only [Pt.U, Pt.locs, Pt.cells, Pt.slots] at Xk127 lk127 yk127 zk127 stk127 hQk127
    replace lk127 := lk127.symm; replace yk127 := yk127.symm; replace zk127 := zk127.symm; subst lk127 yk127 zk127
    obtain ⟨rfl, Nk127q, ek127⟩ := hQk127
    have Nk127 := Fr.app Nk122 Nk127q
    have hi129 := inb_of (j := (1 : Int32)) So124 ⟨by decide, by decide⟩
    have ha130 : _ = some (Value.double (own_vh3_2 (own_v0_1 q1) (FP.i2d q2.toInt32))) := Ho124.at hi129 rfl
    obtain ⟨_, _, ⟨Tk131, Lk131, kk131, nk131⟩, -, Xk131, ⟨Lck131, hQk131, lk131, yk131, zk131⟩, stk131⟩ := Jvm.LawKit.callS Xk127 hx (y := (⟨"com/example/surepath/surepath/LatticesHalvedPinLaw", "expect", "([DII)D"⟩ : MethodName)) hown (mvT hZ (own_W hw 6 rfl)) (mvT hZ (own_W hw 7 rfl)) (mvT hZ (own_W hw 8 rfl)) (mvT hZ (own_W hw 9 rfl)) (by decide) (backOf (W := 2) (own_rmex13 l Z a0 hw [] bn1 (3 : Int32) kn1 (FP.i2d q1.toInt32) (own_v0_1 q1) (FP.i2d q2.toInt32) (own_v0_2 q2) (FP.i2d q3.toInt32) (own_v0_3 q3) (FP.i2d q4.toInt32) (own_v0_4 q4) Tk122.heap n0 (Nat.le_trans Z0 sz123) F128 (by decide) (c214_nn49_2 hs35) (by decide) (c277_nn22_2 hs35) (by decide) (c242_nn13_4 hs35) (c277_nn37_2 hs35)) hZ (own_W hw 9 rfl) (own_W hw 8 rfl) (by decide) (by decide)) (g := (mkF m 277 #[.val (.int p0), .val (.long q1), .second, .val (.long q2), .second, .val (.long q3), .second, .val (.long q4), .second, .val (.int 3), .val (.ref bn1), .val (.ref bn95), .val (.ref bk122_0), .val (.int 1)] [(.int 1), (.int 3), (.ref bn1), (.double (own_vh3_2 (own_v0_1 q1) (FP.i2d q2.toInt32)))])) rfl (by rw [hml]; rfl) (argsL := [(.ref bn1), (.int 3), (.int 1)]) (rest := [(.double (own_vh3_2 (own_v0_1 q1) (FP.i2d q2.toInt32)))]) (lenOf own_pd0 rfl) rfl (by show 2 * 0 + _ ≤ _; exact Nat.le_of_eq rfl) (hb hby at_277) (fun _ _ => ⟨rfl, ek127, (by decide : 3 + 0 ≤ _), (by decide : 13 + 0 ≤ _)⟩)
    dsimp only [Pt.U, Pt.locs, Pt.cells, Pt.slots] at Xk131 lk131 yk131 zk131 stk131 hQk131
    replace lk131 := lk131.symm; replace yk131 := yk131.symm; replace zk131 := zk131.symm; subst lk131 yk131 zk131
    obtain ⟨rfl, Nk131q, ek131⟩ := hQk131
    have Nk131 := Fr.app Nk127 Nk131q
    obtain ⟨fs, hr, hrun, hended, hW, hsame⟩ := Xk131.leave (v := some (.int 1)) (fun h => by rw [Bd.returns] at h; cases h)
    refine ⟨_, _, pre0 _ (Ks35 _ (K94 _ (?_))), hrun, hended, _, _, rfl, ?_, ⟨_, rfl⟩, hW, hsame.mono (by decide) (by decide)⟩
    · show Steps p.tables e below (To33.setTop (mkF m 89 #[.val (.int p0), .val (.long q1), .second, .val (.long q2), .second, .val (.long q3), .second, .val (.long q4), .second, .val (.int 3), .val (.ref bn1), .unset, .unset, .unset] [])) _
      refine XS.iload Xo33.here hx rfl (hb hby at_89) rfl ?_
      refine stn95 _ ?_
      refine XS.astore Xn95.here hx rfl (hb hby at_93) rfl rfl (l' := #[.val (.int p0), .val (.long q1), .second, .val (.long q2), .second, .val (.long q3), .second, .val (.long q4), .second, .val (.int 3), .val (.ref bn1), .val (.ref bn95), .unset, .unset]) rfl ?_
      refine XS.iload Xn95.here hx rfl (hb hby at_95) rfl ?_
      refine XS.ifNo Xn95.here hx rfl (hb hby at_97) rfl (XT.i0_le_f (by decide : (0 : Int32) < (3 : Int32))) ?_
      refine XS.aload Xn95.here hx rfl (hb hby at_100) rfl rfl ?_
      refine XS.iconst Xn95.here hx rfl (hb hby at_102) ?_
      refine XS.aload Xn95.here hx rfl (hb hby at_103) rfl rfl ?_
      refine XS.iconst Xn95.here hx rfl (hb hby at_105) ?_
      refine Xn95.daload hx (j := (0 : Int32)) (v := (.double (FP.i2d q1.toInt32))) (by rw [en95]; exact Aro98.1) (State.isArrayOf_alike hZ.alike Aro98.2.1) Aro98.2.2 hi99 ha100 (g := (mkF m 106 #[.val (.int p0), .val (.long q1), .second, .val (.long q2), .second, .val (.long q3), .second, .val (.long q4), .second, .val (.int 3), .val (.ref bn1), .val (.ref bn95), .unset, .unset] [(.int 0), (.ref bn1), (.int 0), (.ref bn95)])) rfl rfl (hb hby at_106) _ ?_
      show Steps p.tables e below (Tn95.setTop (mkF m 107 #[.val (.int p0), .val (.long q1), .second, .val (.long q2), .second, .val (.long q3), .second, .val (.long q4), .second, .val (.int 3), .val (.ref bn1), .val (.ref bn95), .unset, .unset] [(.double (FP.i2d q1.toInt32)), (.int 0), (.ref bn95)])) _
      refine sto103 _ ?_
      refine XS.iload Xo103.here hx rfl (hb hby at_108) rfl ?_
      refine XS.iconst Xo103.here hx rfl (hb hby at_110) ?_
      refine XS.icmpNo Xo103.here hx rfl (hb hby at_111) rfl (XT.ii_le_f (by decide : (1 : Int32) < (3 : Int32))) ?_
      refine XS.aload Xo103.here hx rfl (hb hby at_114) rfl rfl ?_
      refine XS.iconst Xo103.here hx rfl (hb hby at_116) ?_
      refine XS.aload Xo103.here hx rfl (hb hby at_117) rfl rfl ?_
      refine XS.iconst Xo103.here hx rfl (hb hby at_119) ?_
      refine Xo103.daload hx (j := (1 : Int32)) (v := (.double (own_v0_1 q1))) (by rw [eo103]; exact Aro107.1) (State.isArrayOf_alike hZ.alike Aro107.2.1) Aro107.2.2 hi108 ha109 (g := (mkF m 120 #[.val (.int p0), .val (.long q1), .second, .val (.long q2), .second, .val (.long q3), .second, .val (.long q4), .second, .val (.int 3), .val (.ref bn1), .val (.ref bn95), .unset, .unset] [(.int 1), (.ref bn1), (.int 1), (.ref bn95)])) rfl rfl (hb hby at_120) _ ?_
      show Steps p.tables e below (To103.setTop (mkF m 121 #[.val (.int p0), .val (.long q1), .second, .val (.long q2), .second, .val (.long q3), .second, .val (.long q4), .second, .val (.int 3), .val (.ref bn1), .val (.ref bn95), .unset, .unset] [(.double (own_v0_1 q1)), (.int 1), (.ref bn95)])) _
      refine sto112 _ ?_
      refine XS.iload Xo112.here hx rfl (hb hby at_122) rfl ?_
      refine XS.iconst Xo112.here hx rfl (hb hby at_124) ?_
      refine XS.icmpNo Xo112.here hx rfl (hb hby at_125) rfl (XT.ii_le_f (by decide : (2 : Int32) < (3 : Int32))) ?_
      refine XS.aload Xo112.here hx rfl (hb hby at_128) rfl rfl ?_
      refine XS.iconst Xo112.here hx rfl (hb hby at_130) ?_
      refine XS.aload Xo112.here hx rfl (hb hby at_131) rfl rfl ?_
      refine XS.iconst Xo112.here hx rfl (hb hby at_133) ?_
      refine Xo112.daload hx (j := (2 : Int32)) (v := (.double (FP.i2d q2.toInt32))) (by rw [eo112]; exact Aro115.1) (State.isArrayOf_alike hZ.alike Aro115.2.1) Aro115.2.2 hi116 ha117 (g := (mkF m 134 #[.val (.int p0), .val (.long q1), .second, .val (.long q2), .second, .val (.long q3), .second, .val (.long q4), .second, .val (.int 3), .val (.ref bn1), .val (.ref bn95), .unset, .unset] [(.int 2), (.ref bn1), (.int 2), (.ref bn95)])) rfl rfl (hb hby at_134) _ ?_
      show Steps p.tables e below (To112.setTop (mkF m 135 #[.val (.int p0), .val (.long q1), .second, .val (.long q2), .second, .val (.long q3), .second, .val (.long q4), .second, .val (.int 3), .val (.ref bn1), .val (.ref bn95), .unset, .unset] [(.double (FP.i2d q2.toInt32)), (.int 2), (.ref bn95)])) _
      refine sto120 _ ?_
      refine XS.iload Xo120.here hx rfl (hb hby at_136) rfl ?_
      refine XS.iconst Xo120.here hx rfl (hb hby at_138) ?_
      refine XS.icmpYes Xo120.here hx rfl (pc0 := 139) (pc' := 150) rfl (hb hby at_139) rfl (XT.ii_le_t (by decide : ¬ ((3 : Int32) < (3 : Int32)))) (by decide) (by decide) ?_
      refine XS.iload Xo120.here hx rfl (hb hby at_150) rfl ?_
      refine XS.iconst Xo120.here hx rfl (hb hby at_152) ?_
      refine XS.icmpYes Xo120.here hx rfl (pc0 := 153) (pc' := 164) rfl (hb hby at_153) rfl (XT.ii_le_t (by decide : ¬ ((4 : Int32) < (3 : Int32)))) (by decide) (by decide) ?_
      refine XS.iload Xo120.here hx rfl (hb hby at_164) rfl ?_
      refine XS.iconst Xo120.here hx rfl (hb hby at_166) ?_
      refine XS.icmpYes Xo120.here hx rfl (pc0 := 167) (pc' := 178) rfl (hb hby at_167) rfl (XT.ii_le_t (by decide : ¬ ((5 : Int32) < (3 : Int32)))) (by decide) (by decide) ?_
      refine XS.iload Xo120.here hx rfl (hb hby at_178) rfl ?_
      refine XS.bipush Xo120.here hx rfl (hb hby at_180) ?_
      refine XS.icmpYes Xo120.here hx rfl (pc0 := 182) (pc' := 195) rfl (hb hby at_182) rfl (XT.ii_le_t (by decide : ¬ ((6 : Int32) < (3 : Int32)))) (by decide) (by decide) ?_
      refine XS.iload Xo120.here hx rfl (hb hby at_195) rfl ?_
      refine XS.bipush Xo120.here hx rfl (hb hby at_197) ?_
      refine XS.icmpYes Xo120.here hx rfl (pc0 := 199) (pc' := 212) rfl (hb hby at_199) rfl (XT.ii_le_t (by decide : ¬ ((7 : Int32) < (3 : Int32)))) (by decide) (by decide) ?_
      refine XS.aload Xo120.here hx rfl (hb hby at_212) rfl rfl ?_
      refine stk122 _ ?_
      show Steps p.tables e below (Tk122.setTop (mkF m 217 #[.val (.int p0), .val (.long q1), .second, .val (.long q2), .second, .val (.long q3), .second, .val (.long q4), .second, .val (.int 3), .val (.ref bn1), .val (.ref bn95), .unset, .unset] [(.ref bk122_0)])) _
      refine XS.astore Xk122.here hx rfl (hb hby at_217) rfl rfl (l' := #[.val (.int p0), .val (.long q1), .second, .val (.long q2), .second, .val (.long q3), .second, .val (.long q4), .second, .val (.int 3), .val (.ref bn1), .val (.ref bn95), .val (.ref bk122_0), .unset]) rfl ?_
      refine XS.aload Xk122.here hx rfl (hb hby at_219) rfl rfl ?_
      refine Xk122.arraylength hx Aro124.1 (State.isArrayOf_alike hZ.alike Aro124.2.1) (g := (mkF m 221 #[.val (.int p0), .val (.long q1), .second, .val (.long q2), .second, .val (.long q3), .second, .val (.long q4), .second, .val (.int 3), .val (.ref bn1), .val (.ref bn95), .val (.ref bk122_0), .unset] [(.ref bk122_0)])) rfl rfl (hb hby at_221) _ ?_
      rw [len_of So124 No124]
      show Steps p.tables e below (Tk122.setTop (mkF m 222 #[.val (.int p0), .val (.long q1), .second, .val (.long q2), .second, .val (.long q3), .second, .val (.long q4), .second, .val (.int 3), .val (.ref bn1), .val (.ref bn95), .val (.ref bk122_0), .unset] [(.int 2)])) _
      refine XS.iload Xk122.here hx rfl (hb hby at_222) rfl ?_
      refine XS.iconst Xk122.here hx rfl (hb hby at_224) ?_
      refine XS.idiv Xk122.here hx rfl (hb hby at_225) rfl (by decide) ?_
      show Steps p.tables e below (Tk122.setTop (mkF m 226 #[.val (.int p0), .val (.long q1), .second, .val (.long q2), .second, .val (.long q3), .second, .val (.long q4), .second, .val (.int 3), .val (.ref bn1), .val (.ref bn95), .val (.ref bk122_0), .unset] [(.int 1), (.int 2)])) _
      refine XS.iconst Xk122.here hx rfl (hb hby at_226) ?_
      refine XS.iadd Xk122.here hx rfl (hb hby at_227) rfl ?_
      refine XS.icmpYes Xk122.here hx rfl (pc0 := 228) (pc' := 233) rfl (hb hby at_228) rfl (XT.ii_eq_t (by decide : (2 : Int32) = (2 : Int32))) (by decide) (by decide) ?_
      refine XS.aload Xk122.here hx rfl (hb hby at_233) rfl rfl ?_
      refine XS.iconst Xk122.here hx rfl (hb hby at_235) ?_
      refine Xk122.daload hx (j := (0 : Int32)) (v := (.double (own_vh3_0 (FP.i2d q1.toInt32) (own_v0_1 q1)))) Aro124.1 (State.isArrayOf_alike hZ.alike Aro124.2.1) Aro124.2.2 hi125 ha126 (g := (mkF m 236 #[.val (.int p0), .val (.long q1), .second, .val (.long q2), .second, .val (.long q3), .second, .val (.long q4), .second, .val (.int 3), .val (.ref bn1), .val (.ref bn95), .val (.ref bk122_0), .unset] [(.int 0), (.ref bk122_0)])) rfl rfl (hb hby at_236) _ ?_
      show Steps p.tables e below (Tk122.setTop (mkF m 237 #[.val (.int p0), .val (.long q1), .second, .val (.long q2), .second, .val (.long q3), .second, .val (.long q4), .second, .val (.int 3), .val (.ref bn1), .val (.ref bn95), .val (.ref bk122_0), .unset] [(.double (own_vh3_0 (FP.i2d q1.toInt32) (own_v0_1 q1)))])) _
      refine XS.aload Xk122.here hx rfl (hb hby at_237) rfl rfl ?_
      refine XS.iload Xk122.here hx rfl (hb hby at_239) rfl ?_
      refine XS.iconst Xk122.here hx rfl (hb hby at_241) ?_
      refine stk127 _ ?_
      show Steps p.tables e below (Tk127.setTop (mkF m 245 #[.val (.int p0), .val (.long q1), .second, .val (.long q2), .second, .val (.long q3), .second, .val (.long q4), .second, .val (.int 3), .val (.ref bn1), .val (.ref bn95), .val (.ref bk122_0), .unset] [(.double (own_rex02_0 (FP.i2d q1.toInt32) (own_v0_1 q1))), (.double (own_vh3_0 (FP.i2d q1.toInt32) (own_v0_1 q1)))])) _
      refine XS.dcmpS Xk127.here hx rfl (hb hby at_245) rfl rfl ?_
      refine XS.ifNo Xk127.here hx rfl (hb hby at_246) rfl (XT.i0_ne_f (hc246_4 hs35)) ?_
      refine XS.iconst Xk127.here hx rfl (hb hby at_249) ?_
      refine XS.goto Xk127.here hx rfl (pc0 := 250) (pc' := 254) rfl (hb hby at_250) (by decide) (by decide) ?_
      refine XS.istore Xk127.here hx rfl (hb hby at_254) rfl (l' := #[.val (.int p0), .val (.long q1), .second, .val (.long q2), .second, .val (.long q3), .second, .val (.long q4), .second, .val (.int 3), .val (.ref bn1), .val (.ref bn95), .val (.ref bk122_0), .val (.int 1)]) rfl ?_
      refine XS.aload Xk127.here hx rfl (hb hby at_256) rfl rfl ?_
      refine Xk127.arraylength hx (by rw [ek127]; exact Aro124.1) (State.isArrayOf_alike hZ.alike Aro124.2.1) (g := (mkF m 258 #[.val (.int p0), .val (.long q1), .second, .val (.long q2), .second, .val (.long q3), .second, .val (.long q4), .second, .val (.int 3), .val (.ref bn1), .val (.ref bn95), .val (.ref bk122_0), .val (.int 1)] [(.ref bk122_0)])) rfl rfl (hb hby at_258) _ ?_
      rw [len_of So124 No124]
      show Steps p.tables e below (Tk127.setTop (mkF m 259 #[.val (.int p0), .val (.long q1), .second, .val (.long q2), .second, .val (.long q3), .second, .val (.long q4), .second, .val (.int 3), .val (.ref bn1), .val (.ref bn95), .val (.ref bk122_0), .val (.int 1)] [(.int 2)])) _
      refine XS.iconst Xk127.here hx rfl (hb hby at_259) ?_
      refine XS.icmpNo Xk127.here hx rfl (hb hby at_260) rfl (XT.ii_le_f (by decide : (1 : Int32) < (2 : Int32))) ?_
      refine XS.iload Xk127.here hx rfl (hb hby at_263) rfl ?_
      refine XS.ifNo Xk127.here hx rfl (hb hby at_265) rfl (XT.i0_eq_f (by decide : ¬ ((1 : Int32) = (0 : Int32)))) ?_
      refine XS.aload Xk127.here hx rfl (hb hby at_268) rfl rfl ?_
      refine XS.iconst Xk127.here hx rfl (hb hby at_270) ?_
      refine Xk127.daload hx (j := (1 : Int32)) (v := (.double (own_vh3_2 (own_v0_1 q1) (FP.i2d q2.toInt32)))) (by rw [ek127]; exact Aro124.1) (State.isArrayOf_alike hZ.alike Aro124.2.1) Aro124.2.2 hi129 ha130 (g := (mkF m 271 #[.val (.int p0), .val (.long q1), .second, .val (.long q2), .second, .val (.long q3), .second, .val (.long q4), .second, .val (.int 3), .val (.ref bn1), .val (.ref bn95), .val (.ref bk122_0), .val (.int 1)] [(.int 1), (.ref bk122_0)])) rfl rfl (hb hby at_271) _ ?_
      show Steps p.tables e below (Tk127.setTop (mkF m 272 #[.val (.int p0), .val (.long q1), .second, .val (.long q2), .second, .val (.long q3), .second, .val (.long q4), .second, .val (.int 3), .val (.ref bn1), .val (.ref bn95), .val (.ref bk122_0), .val (.int 1)] [(.double (own_vh3_2 (own_v0_1 q1) (FP.i2d q2.toInt32)))])) _
      refine XS.aload Xk127.here hx rfl (hb hby at_272) rfl rfl ?_
      refine XS.iload Xk127.here hx rfl (hb hby at_274) rfl ?_
      refine XS.iconst Xk127.here hx rfl (hb hby at_276) ?_
      refine stk131 _ ?_
      show Steps p.tables e below (Tk131.setTop (mkF m 280 #[.val (.int p0), .val (.long q1), .second, .val (.long q2), .second, .val (.long q3), .second, .val (.long q4), .second, .val (.int 3), .val (.ref bn1), .val (.ref bn95), .val (.ref bk122_0), .val (.int 1)] [(.double (own_rex13_0 (own_v0_1 q1) (FP.i2d q2.toInt32))), (.double (own_vh3_2 (own_v0_1 q1) (FP.i2d q2.toInt32)))])) _
      refine XS.dcmpS Xk131.here hx rfl (hb hby at_280) rfl rfl ?_
      refine XS.ifNo Xk131.here hx rfl (hb hby at_281) rfl (XT.i0_ne_f (hc281_2 hs35)) ?_
      refine XS.iconst Xk131.here hx rfl (hb hby at_284) ?_
      refine XS.goto Xk131.here hx rfl (pc0 := 285) (pc' := 289) rfl (hb hby at_285) (by decide) (by decide) ?_
      refine XS.istore Xk131.here hx rfl (hb hby at_289) rfl (l' := #[.val (.int p0), .val (.long q1), .second, .val (.long q2), .second, .val (.long q3), .second, .val (.long q4), .second, .val (.int 3), .val (.ref bn1), .val (.ref bn95), .val (.ref bk122_0), .val (.int 1)]) rfl ?_
      refine XS.aload Xk131.here hx rfl (hb hby at_291) rfl rfl ?_
      refine Xk131.arraylength hx (by rw [ek131]; exact Aro124.1) (State.isArrayOf_alike hZ.alike Aro124.2.1) (g := (mkF m 293 #[.val (.int p0), .val (.long q1), .second, .val (.long q2), .second, .val (.long q3), .second, .val (.long q4), .second, .val (.int 3), .val (.ref bn1), .val (.ref bn95), .val (.ref bk122_0), .val (.int 1)] [(.ref bk122_0)])) rfl rfl (hb hby at_293) _ ?_
      rw [len_of So124 No124]
      show Steps p.tables e below (Tk131.setTop (mkF m 294 #[.val (.int p0), .val (.long q1), .second, .val (.long q2), .second, .val (.long q3), .second, .val (.long q4), .second, .val (.int 3), .val (.ref bn1), .val (.ref bn95), .val (.ref bk122_0), .val (.int 1)] [(.int 2)])) _
      refine XS.iconst Xk131.here hx rfl (hb hby at_294) ?_
      refine XS.icmpYes Xk131.here hx rfl (pc0 := 295) (pc' := 326) rfl (hb hby at_295) rfl (XT.ii_le_t (by decide : ¬ ((2 : Int32) < (2 : Int32)))) (by decide) (by decide) ?_
      refine XS.aload Xk131.here hx rfl (hb hby at_326) rfl rfl ?_
      refine Xk131.arraylength hx (by rw [ek131]; exact Aro124.1) (State.isArrayOf_alike hZ.alike Aro124.2.1) (g := (mkF m 328 #[.val (.int p0), .val (.long q1), .second, .val (.long q2), .second, .val (.long q3), .second, .val (.long q4), .second, .val (.int 3), .val (.ref bn1), .val (.ref bn95), .val (.ref bk122_0), .val (.int 1)] [(.ref bk122_0)])) rfl rfl (hb hby at_328) _ ?_
      rw [len_of So124 No124]
      show Steps p.tables e below (Tk131.setTop (mkF m 329 #[.val (.int p0), .val (.long q1), .second, .val (.long q2), .second, .val (.long q3), .second, .val (.long q4), .second, .val (.int 3), .val (.ref bn1), .val (.ref bn95), .val (.ref bk122_0), .val (.int 1)] [(.int 2)])) _
      refine XS.iconst Xk131.here hx rfl (hb hby at_329) ?_
      refine XS.icmpYes Xk131.here hx rfl (pc0 := 330) (pc' := 361) rfl (hb hby at_330) rfl (XT.ii_le_t (by decide : ¬ ((3 : Int32) < (2 : Int32)))) (by decide) (by decide) ?_
      refine XS.aload Xk131.here hx rfl (hb hby at_361) rfl rfl ?_
      refine Xk131.arraylength hx (by rw [ek131]; exact Aro124.1) (State.isArrayOf_alike hZ.alike Aro124.2.1) (g := (mkF m 363 #[.val (.int p0), .val (.long q1), .second, .val (.long q2), .second, .val (.long q3), .second, .val (.long q4), .second, .val (.int 3), .val (.ref bn1), .val (.ref bn95), .val (.ref bk122_0), .val (.int 1)] [(.ref bk122_0)])) rfl rfl (hb hby at_363) _ ?_
      rw [len_of So124 No124]
      show Steps p.tables e below (Tk131.setTop (mkF m 364 #[.val (.int p0), .val (.long q1), .second, .val (.long q2), .second, .val (.long q3), .second, .val (.long q4), .second, .val (.int 3), .val (.ref bn1), .val (.ref bn95), .val (.ref bk122_0), .val (.int 1)] [(.int 2)])) _
      refine XS.iconst Xk131.here hx rfl (hb hby at_364) ?_
      refine XS.icmpYes Xk131.here hx rfl (pc0 := 365) (pc' := 396) rfl (hb hby at_365) rfl (XT.ii_le_t (by decide : ¬ ((4 : Int32) < (2 : Int32)))) (by decide) (by decide) ?_
      refine XS.iload Xk131.here hx rfl (hb hby at_396) rfl ?_
      show Steps p.tables e below (Tk131.setTop (mkF m 398 #[.val (.int p0), .val (.long q1), .second, .val (.long q2), .second, .val (.long q3), .second, .val (.long q4), .second, .val (.int 3), .val (.ref bn1), .val (.ref bn95), .val (.ref bk122_0), .val (.int 1)] [(.int 1)])) _
      exact retN Xk131 hx (t := .boolean) Bd.returns (by simp) (hb hby at_398) hr
    · show own_Q0 Z p0 q1 q2 q3 q4 h0 n0 _ Tk131.heap _
      rw [ek131]
      exact ⟨rfl, Nk131⟩
  · have K132 : ∀ t, Steps p.tables e below (To33.setTop (mkF m 89 #[.val (.int p0), .val (.long q1), .second, .val (.long q2), .second, .val (.long q3), .second, .val (.long q4), .second, .val (.int 4), .val (.ref bn1), .unset, .unset, .unset] [])) t → Steps p.tables e below (To33.setTop (mkF m 89 #[.val (.int p0), .val (.long q1), .second, .val (.long q2), .second, .val (.long q3), .second, .val (.long q4), .second, .val (.int (own_v0_0 p0)), .val (.ref bn1), .unset, .unset, .unset] [])) t := by intro t kt; rw [hs35]; exact kt
    obtain ⟨Tn133, hn133, kn133, Xn133, en133, En133, An133, stn133⟩ := newP Xo33 hx hZ (own_W hw 1 rfl) eo33 (g := (mkF m 91 #[.val (.int p0), .val (.long q1), .second, .val (.long q2), .second, .val (.long q3), .second, .val (.long q4), .second, .val (.int 4), .val (.ref bn1), .unset, .unset, .unset] [(.int 4)])) rfl (hb hby at_91) rfl (by decide) (cap := 4) (by decide) (by decide) (by decide) (by decide)
    obtain ⟨bn133, gn133⟩ : ∃ z, z = ho33.size := ⟨_, rfl⟩
    rw [← gn133] at An133 stn133
    have g_bn133 : n0 ≤ bn133 := Nat.le_trans (Nat.le_trans Z0 sz34) (Nat.le_of_eq gn133.symm)
    have sz_bn133 : h0.size ≤ bn133 := Nat.le_trans sz34 (Nat.le_of_eq gn133.symm)
    have sz134 : h0.size ≤ hn133.size := Nat.le_trans sz34 En133.1
    have V_bn133 : Arv Z hn133 bn133 kn133 .double (4 : Int32) [(.double 0), (.double 0), (.double 0), (.double 0)] (.double 0) := (Arv.new An133 (by decide)).pad (pad_rep [] (.double 0) 4)
    have F135 := (Vwo33.ext En133)
    obtain ⟨clo136, Aro136, qo136, So136, No136, Ho136, Go136⟩ := id F135
    have hi137 := inb_of (j := (0 : Int32)) So136 ⟨by decide, by decide⟩
    have ha138 : _ = some (Value.double (FP.i2d q1.toInt32)) := Ho136.at hi137 rfl
    obtain ⟨clo139, Aro139, qo139, So139, No139, Ho139, Go139⟩ := id V_bn133
    have hi140 := inb_of (j := (0 : Int32)) So139 ⟨by decide, by decide⟩
    obtain ⟨To141, ho141, Xo141, eo141, Wo141, sto141⟩ := stD Xn133 hx hZ en133 Aro139 (j := (0 : Int32)) hi140 (g := (mkF m 107 #[.val (.int p0), .val (.long q1), .second, .val (.long q2), .second, .val (.long q3), .second, .val (.long q4), .second, .val (.int 4), .val (.ref bn1), .val (.ref bn133), .unset, .unset] [(.double (FP.i2d q1.toInt32)), (.int 0), (.ref bn133)])) rfl rfl (hb hby at_107)
    have Vwo141 : Arv Z ho141 bn133 kn133 .double (4 : Int32) [(.double (FP.i2d q1.toInt32)), (.double 0), (.double 0), (.double 0)] (.double 0) := Arv.set Aro139 qo139 So139 No139 Ho139 Go139 rfl Wo141 0 rfl (Nat.le_of_ble_eq_true rfl)
    have sz142 : h0.size ≤ ho141.size := Nat.le_trans sz134 (Nat.le_of_eq Wo141.size.symm)
    have Nfo141 := Fr.snoc Xo141 Nfo33 g_bn133
    have ne143 : bn1 ≠ bn133 := (Nat.ne_of_lt (Nat.lt_of_lt_of_le Vwo33.lt (Nat.le_of_eq gn133.symm)))
    have F144 := (F135.other Wo141 ne143)
    obtain ⟨clo145, Aro145, qo145, So145, No145, Ho145, Go145⟩ := id F144
    have hi146 := inb_of (j := (1 : Int32)) So145 ⟨by decide, by decide⟩
    have ha147 : _ = some (Value.double (own_v0_1 q1)) := Ho145.at hi146 rfl
    obtain ⟨clo148, Aro148, qo148, So148, No148, Ho148, Go148⟩ := id Vwo141
    have hi149 := inb_of (j := (1 : Int32)) So148 ⟨by decide, by decide⟩
    obtain ⟨To150, ho150, Xo150, eo150, Wo150, sto150⟩ := stD Xo141 hx hZ eo141 Aro148 (j := (1 : Int32)) hi149 (g := (mkF m 121 #[.val (.int p0), .val (.long q1), .second, .val (.long q2), .second, .val (.long q3), .second, .val (.long q4), .second, .val (.int 4), .val (.ref bn1), .val (.ref bn133), .unset, .unset] [(.double (own_v0_1 q1)), (.int 1), (.ref bn133)])) rfl rfl (hb hby at_121)
    have Vwo150 : Arv Z ho150 bn133 kn133 .double (4 : Int32) [(.double (FP.i2d q1.toInt32)), (.double (own_v0_1 q1)), (.double 0), (.double 0)] (.double 0) := Arv.set Aro148 qo148 So148 No148 Ho148 Go148 rfl Wo150 1 rfl (Nat.le_of_ble_eq_true rfl)
    have sz151 : h0.size ≤ ho150.size := Nat.le_trans sz142 (Nat.le_of_eq Wo150.size.symm)
    have Nfo150 := Fr.snoc Xo150 Nfo141 g_bn133
    have F152 := (F144.other Wo150 ne143)
    obtain ⟨clo153, Aro153, qo153, So153, No153, Ho153, Go153⟩ := id F152
    have hi154 := inb_of (j := (2 : Int32)) So153 ⟨by decide, by decide⟩
    have ha155 : _ = some (Value.double (FP.i2d q2.toInt32)) := Ho153.at hi154 rfl
    obtain ⟨clo156, Aro156, qo156, So156, No156, Ho156, Go156⟩ := id Vwo150
    have hi157 := inb_of (j := (2 : Int32)) So156 ⟨by decide, by decide⟩
    obtain ⟨To158, ho158, Xo158, eo158, Wo158, sto158⟩ := stD Xo150 hx hZ eo150 Aro156 (j := (2 : Int32)) hi157 (g := (mkF m 135 #[.val (.int p0), .val (.long q1), .second, .val (.long q2), .second, .val (.long q3), .second, .val (.long q4), .second, .val (.int 4), .val (.ref bn1), .val (.ref bn133), .unset, .unset] [(.double (FP.i2d q2.toInt32)), (.int 2), (.ref bn133)])) rfl rfl (hb hby at_135)
    have Vwo158 : Arv Z ho158 bn133 kn133 .double (4 : Int32) [(.double (FP.i2d q1.toInt32)), (.double (own_v0_1 q1)), (.double (FP.i2d q2.toInt32)), (.double 0)] (.double 0) := Arv.set Aro156 qo156 So156 No156 Ho156 Go156 rfl Wo158 2 rfl (Nat.le_of_ble_eq_true rfl)
    have sz159 : h0.size ≤ ho158.size := Nat.le_trans sz151 (Nat.le_of_eq Wo158.size.symm)
    have Nfo158 := Fr.snoc Xo158 Nfo150 g_bn133
    have F160 := (F152.other Wo158 ne143)
    obtain ⟨clo161, Aro161, qo161, So161, No161, Ho161, Go161⟩ := id F160
    have hi162 := inb_of (j := (3 : Int32)) So161 ⟨by decide, by decide⟩
    have ha163 : _ = some (Value.double (own_v0_2 q2)) := Ho161.at hi162 rfl
    obtain ⟨clo164, Aro164, qo164, So164, No164, Ho164, Go164⟩ := id Vwo158
    have hi165 := inb_of (j := (3 : Int32)) So164 ⟨by decide, by decide⟩
    obtain ⟨To166, ho166, Xo166, eo166, Wo166, sto166⟩ := stD Xo158 hx hZ eo158 Aro164 (j := (3 : Int32)) hi165 (g := (mkF m 149 #[.val (.int p0), .val (.long q1), .second, .val (.long q2), .second, .val (.long q3), .second, .val (.long q4), .second, .val (.int 4), .val (.ref bn1), .val (.ref bn133), .unset, .unset] [(.double (own_v0_2 q2)), (.int 3), (.ref bn133)])) rfl rfl (hb hby at_149)
    have Vwo166 : Arv Z ho166 bn133 kn133 .double (4 : Int32) [(.double (FP.i2d q1.toInt32)), (.double (own_v0_1 q1)), (.double (FP.i2d q2.toInt32)), (.double (own_v0_2 q2))] (.double 0) := Arv.set Aro164 qo164 So164 No164 Ho164 Go164 rfl Wo166 3 rfl (Nat.le_of_ble_eq_true rfl)
    have sz167 : h0.size ≤ ho166.size := Nat.le_trans sz159 (Nat.le_of_eq Wo166.size.symm)
    have Nfo166 := Fr.snoc Xo166 Nfo158 g_bn133
    obtain ⟨_, _, ⟨Tk168, Lk168, kk168, nk168⟩, -, Xk168, ⟨Lck168, hQk168, lk168, yk168, zk168⟩, stk168⟩ := Jvm.LawKit.callS Xo166 hx (y := (⟨"com/example/surepath/surepath/TravelTime$Lattices", "halved", "([D)[D"⟩ : MethodName)) hown (mvT hZ (own_W hw 2 rfl)) (mvT hZ (own_W hw 3 rfl)) (mvT hZ (own_W hw 4 rfl)) (mvT hZ (own_W hw 5 rfl)) (by decide) (backOf (W := 0) (own_rmh4 l Z a0 hw [] bn133 kn133 (FP.i2d q1.toInt32) (own_v0_1 q1) (FP.i2d q2.toInt32) (own_v0_2 q2) ho166 n0 (Nat.le_trans Z0 sz167) Vwo166 (c214_nn32_4 hs35) (c214_nn49_3 hs35) (c214_nn50_3 hs35) (c214_nn67_3 hs35) (c214_nn32_2_3 hs35) (c214_nn49_2_2 hs35) (c214_nn50_2_2 hs35) (c214_nn67_2_2 hs35)) hZ (own_W hw 5 rfl) (own_W hw 4 rfl) (by decide) (by decide)) (g := (mkF m 214 #[.val (.int p0), .val (.long q1), .second, .val (.long q2), .second, .val (.long q3), .second, .val (.long q4), .second, .val (.int 4), .val (.ref bn1), .val (.ref bn133), .unset, .unset] [(.ref bn133)])) rfl (by rw [hml]; rfl) (argsL := [(.ref bn133)]) (rest := []) (lenOf own_pd1 rfl) rfl (by show 2 * 0 + _ ≤ _; exact Nat.le_of_eq rfl) (hb hby at_214) (fun _ _ => ⟨rfl, eo166, (by decide : 2 + 1 ≤ _), (by decide : 12 + 3 ≤ _)⟩)
    dsimp only [Pt.U, Pt.locs, Pt.cells, Pt.slots] at Xk168 lk168 yk168 zk168 stk168 hQk168
    replace lk168 := lk168.symm; replace yk168 := yk168.symm; replace zk168 := zk168.symm; subst lk168 yk168 zk168
    obtain ⟨bk168_0, kk168_1, rfl, Nk168q, Kk168, lebk168_0, Qk168_0⟩ := hQk168
    have g_bk168_0 : n0 ≤ bk168_0 := Nat.le_trans (Nat.le_trans Z0 sz167) lebk168_0
    have sz_bk168_0 : h0.size ≤ bk168_0 := Nat.le_trans sz167 lebk168_0
    have sz169 : h0.size ≤ Tk168.heap.size := Nat.le_trans sz167 Kk168.1
    have Nk168 := Fr.app Nfo166 Nk168q
    obtain ⟨clo170, Aro170, qo170, So170, No170, Ho170, Go170⟩ := id Qk168_0
    have hi171 := inb_of (j := (0 : Int32)) So170 ⟨by decide, by decide⟩
    have ha172 : _ = some (Value.double (own_vh4_0 (FP.i2d q1.toInt32) (own_v0_1 q1))) := Ho170.at hi171 rfl
    have F174 := ((F160.other Wo166 ne143).keep Kk168 nin0)
    obtain ⟨_, _, ⟨Tk173, Lk173, kk173, nk173⟩, -, Xk173, ⟨Lck173, hQk173, lk173, yk173, zk173⟩, stk173⟩ := Jvm.LawKit.callS Xk168 hx (y := (⟨"com/example/surepath/surepath/LatticesHalvedPinLaw", "expect", "([DII)D"⟩ : MethodName)) hown (mvT hZ (own_W hw 6 rfl)) (mvT hZ (own_W hw 7 rfl)) (mvT hZ (own_W hw 8 rfl)) (mvT hZ (own_W hw 9 rfl)) (by decide) (backOf (W := 2) (own_rmex02 l Z a0 hw [] bn1 (4 : Int32) kn1 (FP.i2d q1.toInt32) (own_v0_1 q1) (FP.i2d q2.toInt32) (own_v0_2 q2) (FP.i2d q3.toInt32) (own_v0_3 q3) (FP.i2d q4.toInt32) (own_v0_4 q4) Tk168.heap n0 (Nat.le_trans Z0 sz169) F174 (c242_nn13_5 hs35) (by decide) (c242_nn22_5 hs35) (by decide) (c214_nn49_3 hs35) (c242_nn37_5 hs35)) hZ (own_W hw 9 rfl) (own_W hw 8 rfl) (by decide) (by decide)) (g := (mkF m 242 #[.val (.int p0), .val (.long q1), .second, .val (.long q2), .second, .val (.long q3), .second, .val (.long q4), .second, .val (.int 4), .val (.ref bn1), .val (.ref bn133), .val (.ref bk168_0), .unset] [(.int 0), (.int 4), (.ref bn1), (.double (own_vh4_0 (FP.i2d q1.toInt32) (own_v0_1 q1)))])) rfl (by rw [hml]; rfl) (argsL := [(.ref bn1), (.int 4), (.int 0)]) (rest := [(.double (own_vh4_0 (FP.i2d q1.toInt32) (own_v0_1 q1)))]) (lenOf own_pd0 rfl) rfl (by show 2 * 0 + _ ≤ _; exact Nat.le_of_eq rfl) (hb hby at_242) (fun _ _ => ⟨rfl, rfl, (by decide : 3 + 0 ≤ _), (by decide : 15 + 0 ≤ _)⟩)
    dsimp only [Pt.U, Pt.locs, Pt.cells, Pt.slots] at Xk173 lk173 yk173 zk173 stk173 hQk173
    replace lk173 := lk173.symm; replace yk173 := yk173.symm; replace zk173 := zk173.symm; subst lk173 yk173 zk173
    obtain ⟨rfl, Nk173q, ek173⟩ := hQk173
    have Nk173 := Fr.app Nk168 Nk173q
    have hi175 := inb_of (j := (1 : Int32)) So170 ⟨by decide, by decide⟩
    have ha176 : _ = some (Value.double (own_vh4_3 (own_v0_1 q1) (FP.i2d q2.toInt32) (own_v0_2 q2))) := Ho170.at hi175 rfl
    obtain ⟨_, _, ⟨Tk177, Lk177, kk177, nk177⟩, -, Xk177, ⟨Lck177, hQk177, lk177, yk177, zk177⟩, stk177⟩ := Jvm.LawKit.callS Xk173 hx (y := (⟨"com/example/surepath/surepath/LatticesHalvedPinLaw", "expect", "([DII)D"⟩ : MethodName)) hown (mvT hZ (own_W hw 6 rfl)) (mvT hZ (own_W hw 7 rfl)) (mvT hZ (own_W hw 8 rfl)) (mvT hZ (own_W hw 9 rfl)) (by decide) (backOf (W := 2) (own_rmex14 l Z a0 hw [] bn1 (4 : Int32) kn1 (FP.i2d q1.toInt32) (own_v0_1 q1) (FP.i2d q2.toInt32) (own_v0_2 q2) (FP.i2d q3.toInt32) (own_v0_3 q3) (FP.i2d q4.toInt32) (own_v0_4 q4) Tk168.heap n0 (Nat.le_trans Z0 sz169) F174 (by decide) (c214_nn49_3 hs35) (by decide) (c277_nn22_3 hs35) (by decide) (c214_nn49_2_2 hs35) (c277_nn37_3 hs35)) hZ (own_W hw 9 rfl) (own_W hw 8 rfl) (by decide) (by decide)) (g := (mkF m 277 #[.val (.int p0), .val (.long q1), .second, .val (.long q2), .second, .val (.long q3), .second, .val (.long q4), .second, .val (.int 4), .val (.ref bn1), .val (.ref bn133), .val (.ref bk168_0), .val (.int 1)] [(.int 1), (.int 4), (.ref bn1), (.double (own_vh4_3 (own_v0_1 q1) (FP.i2d q2.toInt32) (own_v0_2 q2)))])) rfl (by rw [hml]; rfl) (argsL := [(.ref bn1), (.int 4), (.int 1)]) (rest := [(.double (own_vh4_3 (own_v0_1 q1) (FP.i2d q2.toInt32) (own_v0_2 q2)))]) (lenOf own_pd0 rfl) rfl (by show 2 * 0 + _ ≤ _; exact Nat.le_of_eq rfl) (hb hby at_277) (fun _ _ => ⟨rfl, ek173, (by decide : 3 + 0 ≤ _), (by decide : 15 + 0 ≤ _)⟩)
    dsimp only [Pt.U, Pt.locs, Pt.cells, Pt.slots] at Xk177 lk177 yk177 zk177 stk177 hQk177
    replace lk177 := lk177.symm; replace yk177 := yk177.symm; replace zk177 := zk177.symm; subst lk177 yk177 zk177
    obtain ⟨rfl, Nk177q, ek177⟩ := hQk177
    have Nk177 := Fr.app Nk173 Nk177q
    have hi178 := inb_of (j := (2 : Int32)) So170 ⟨by decide, by decide⟩
    have ha179 : _ = some (Value.double (own_vh4_4 (own_v0_2 q2))) := Ho170.at hi178 rfl
    obtain ⟨_, _, ⟨Tk180, Lk180, kk180, nk180⟩, -, Xk180, ⟨Lck180, hQk180, lk180, yk180, zk180⟩, stk180⟩ := Jvm.LawKit.callS Xk177 hx (y := (⟨"com/example/surepath/surepath/LatticesHalvedPinLaw", "expect", "([DII)D"⟩ : MethodName)) hown (mvT hZ (own_W hw 6 rfl)) (mvT hZ (own_W hw 7 rfl)) (mvT hZ (own_W hw 8 rfl)) (mvT hZ (own_W hw 9 rfl)) (by decide) (backOf (W := 2) (own_rmex24 l Z a0 hw [] bn1 (4 : Int32) kn1 (FP.i2d q1.toInt32) (own_v0_1 q1) (FP.i2d q2.toInt32) (own_v0_2 q2) (FP.i2d q3.toInt32) (own_v0_3 q3) (FP.i2d q4.toInt32) (own_v0_4 q4) Tk168.heap n0 (Nat.le_trans Z0 sz169) F174 (by decide) (c214_nn49_2_2 hs35) (by decide) (c312_nn22 hs35) (by decide) (c242_nn13_5 hs35) (c312_nn37 hs35)) hZ (own_W hw 9 rfl) (own_W hw 8 rfl) (by decide) (by decide)) (g := (mkF m 312 #[.val (.int p0), .val (.long q1), .second, .val (.long q2), .second, .val (.long q3), .second, .val (.long q4), .second, .val (.int 4), .val (.ref bn1), .val (.ref bn133), .val (.ref bk168_0), .val (.int 1)] [(.int 2), (.int 4), (.ref bn1), (.double (own_vh4_4 (own_v0_2 q2)))])) rfl (by rw [hml]; rfl) (argsL := [(.ref bn1), (.int 4), (.int 2)]) (rest := [(.double (own_vh4_4 (own_v0_2 q2)))]) (lenOf own_pd0 rfl) rfl (by show 2 * 0 + _ ≤ _; exact Nat.le_of_eq rfl) (hb hby at_312) (fun _ _ => ⟨rfl, ek177, (by decide : 3 + 0 ≤ _), (by decide : 15 + 0 ≤ _)⟩)
    dsimp only [Pt.U, Pt.locs, Pt.cells, Pt.slots] at Xk180 lk180 yk180 zk180 stk180 hQk180
    replace lk180 := lk180.symm; replace yk180 := yk180.symm; replace zk180 := zk180.symm; subst lk180 yk180 zk180
    obtain ⟨rfl, Nk180q, ek180⟩ := hQk180
    have Nk180 := Fr.app Nk177 Nk180q
    obtain ⟨fs, hr, hrun, hended, hW, hsame⟩ := Xk180.leave (v := some (.int 1)) (fun h => by rw [Bd.returns] at h; cases h)
    refine ⟨_, _, pre0 _ (Ks35 _ (K132 _ (?_))), hrun, hended, _, _, rfl, ?_, ⟨_, rfl⟩, hW, hsame.mono (by decide) (by decide)⟩
    · show Steps p.tables e below (To33.setTop (mkF m 89 #[.val (.int p0), .val (.long q1), .second, .val (.long q2), .second, .val (.long q3), .second, .val (.long q4), .second, .val (.int 4), .val (.ref bn1), .unset, .unset, .unset] [])) _
      refine XS.iload Xo33.here hx rfl (hb hby at_89) rfl ?_
      refine stn133 _ ?_
      refine XS.astore Xn133.here hx rfl (hb hby at_93) rfl rfl (l' := #[.val (.int p0), .val (.long q1), .second, .val (.long q2), .second, .val (.long q3), .second, .val (.long q4), .second, .val (.int 4), .val (.ref bn1), .val (.ref bn133), .unset, .unset]) rfl ?_
      refine XS.iload Xn133.here hx rfl (hb hby at_95) rfl ?_
      refine XS.ifNo Xn133.here hx rfl (hb hby at_97) rfl (XT.i0_le_f (by decide : (0 : Int32) < (4 : Int32))) ?_
      refine XS.aload Xn133.here hx rfl (hb hby at_100) rfl rfl ?_
      refine XS.iconst Xn133.here hx rfl (hb hby at_102) ?_
      refine XS.aload Xn133.here hx rfl (hb hby at_103) rfl rfl ?_
      refine XS.iconst Xn133.here hx rfl (hb hby at_105) ?_
      refine Xn133.daload hx (j := (0 : Int32)) (v := (.double (FP.i2d q1.toInt32))) (by rw [en133]; exact Aro136.1) (State.isArrayOf_alike hZ.alike Aro136.2.1) Aro136.2.2 hi137 ha138 (g := (mkF m 106 #[.val (.int p0), .val (.long q1), .second, .val (.long q2), .second, .val (.long q3), .second, .val (.long q4), .second, .val (.int 4), .val (.ref bn1), .val (.ref bn133), .unset, .unset] [(.int 0), (.ref bn1), (.int 0), (.ref bn133)])) rfl rfl (hb hby at_106) _ ?_
      show Steps p.tables e below (Tn133.setTop (mkF m 107 #[.val (.int p0), .val (.long q1), .second, .val (.long q2), .second, .val (.long q3), .second, .val (.long q4), .second, .val (.int 4), .val (.ref bn1), .val (.ref bn133), .unset, .unset] [(.double (FP.i2d q1.toInt32)), (.int 0), (.ref bn133)])) _
      refine sto141 _ ?_
      refine XS.iload Xo141.here hx rfl (hb hby at_108) rfl ?_
      refine XS.iconst Xo141.here hx rfl (hb hby at_110) ?_
      refine XS.icmpNo Xo141.here hx rfl (hb hby at_111) rfl (XT.ii_le_f (by decide : (1 : Int32) < (4 : Int32))) ?_
      refine XS.aload Xo141.here hx rfl (hb hby at_114) rfl rfl ?_
      refine XS.iconst Xo141.here hx rfl (hb hby at_116) ?_
      refine XS.aload Xo141.here hx rfl (hb hby at_117) rfl rfl ?_
      refine XS.iconst Xo141.here hx rfl (hb hby at_119) ?_
      refine Xo141.daload hx (j := (1 : Int32)) (v := (.double (own_v0_1 q1))) (by rw [eo141]; exact Aro145.1) (State.isArrayOf_alike hZ.alike Aro145.2.1) Aro145.2.2 hi146 ha147 (g := (mkF m 120 #[.val (.int p0), .val (.long q1), .second, .val (.long q2), .second, .val (.long q3), .second, .val (.long q4), .second, .val (.int 4), .val (.ref bn1), .val (.ref bn133), .unset, .unset] [(.int 1), (.ref bn1), (.int 1), (.ref bn133)])) rfl rfl (hb hby at_120) _ ?_
      show Steps p.tables e below (To141.setTop (mkF m 121 #[.val (.int p0), .val (.long q1), .second, .val (.long q2), .second, .val (.long q3), .second, .val (.long q4), .second, .val (.int 4), .val (.ref bn1), .val (.ref bn133), .unset, .unset] [(.double (own_v0_1 q1)), (.int 1), (.ref bn133)])) _
      refine sto150 _ ?_
      refine XS.iload Xo150.here hx rfl (hb hby at_122) rfl ?_
      refine XS.iconst Xo150.here hx rfl (hb hby at_124) ?_
      refine XS.icmpNo Xo150.here hx rfl (hb hby at_125) rfl (XT.ii_le_f (by decide : (2 : Int32) < (4 : Int32))) ?_
      refine XS.aload Xo150.here hx rfl (hb hby at_128) rfl rfl ?_
      refine XS.iconst Xo150.here hx rfl (hb hby at_130) ?_
      refine XS.aload Xo150.here hx rfl (hb hby at_131) rfl rfl ?_
      refine XS.iconst Xo150.here hx rfl (hb hby at_133) ?_
      refine Xo150.daload hx (j := (2 : Int32)) (v := (.double (FP.i2d q2.toInt32))) (by rw [eo150]; exact Aro153.1) (State.isArrayOf_alike hZ.alike Aro153.2.1) Aro153.2.2 hi154 ha155 (g := (mkF m 134 #[.val (.int p0), .val (.long q1), .second, .val (.long q2), .second, .val (.long q3), .second, .val (.long q4), .second, .val (.int 4), .val (.ref bn1), .val (.ref bn133), .unset, .unset] [(.int 2), (.ref bn1), (.int 2), (.ref bn133)])) rfl rfl (hb hby at_134) _ ?_
      show Steps p.tables e below (To150.setTop (mkF m 135 #[.val (.int p0), .val (.long q1), .second, .val (.long q2), .second, .val (.long q3), .second, .val (.long q4), .second, .val (.int 4), .val (.ref bn1), .val (.ref bn133), .unset, .unset] [(.double (FP.i2d q2.toInt32)), (.int 2), (.ref bn133)])) _
      refine sto158 _ ?_
      refine XS.iload Xo158.here hx rfl (hb hby at_136) rfl ?_
      refine XS.iconst Xo158.here hx rfl (hb hby at_138) ?_
      refine XS.icmpNo Xo158.here hx rfl (hb hby at_139) rfl (XT.ii_le_f (by decide : (3 : Int32) < (4 : Int32))) ?_
      refine XS.aload Xo158.here hx rfl (hb hby at_142) rfl rfl ?_
      refine XS.iconst Xo158.here hx rfl (hb hby at_144) ?_
      refine XS.aload Xo158.here hx rfl (hb hby at_145) rfl rfl ?_
      refine XS.iconst Xo158.here hx rfl (hb hby at_147) ?_
      refine Xo158.daload hx (j := (3 : Int32)) (v := (.double (own_v0_2 q2))) (by rw [eo158]; exact Aro161.1) (State.isArrayOf_alike hZ.alike Aro161.2.1) Aro161.2.2 hi162 ha163 (g := (mkF m 148 #[.val (.int p0), .val (.long q1), .second, .val (.long q2), .second, .val (.long q3), .second, .val (.long q4), .second, .val (.int 4), .val (.ref bn1), .val (.ref bn133), .unset, .unset] [(.int 3), (.ref bn1), (.int 3), (.ref bn133)])) rfl rfl (hb hby at_148) _ ?_
      show Steps p.tables e below (To158.setTop (mkF m 149 #[.val (.int p0), .val (.long q1), .second, .val (.long q2), .second, .val (.long q3), .second, .val (.long q4), .second, .val (.int 4), .val (.ref bn1), .val (.ref bn133), .unset, .unset] [(.double (own_v0_2 q2)), (.int 3), (.ref bn133)])) _
      refine sto166 _ ?_
      refine XS.iload Xo166.here hx rfl (hb hby at_150) rfl ?_
      refine XS.iconst Xo166.here hx rfl (hb hby at_152) ?_
      refine XS.icmpYes Xo166.here hx rfl (pc0 := 153) (pc' := 164) rfl (hb hby at_153) rfl (XT.ii_le_t (by decide : ¬ ((4 : Int32) < (4 : Int32)))) (by decide) (by decide) ?_
      refine XS.iload Xo166.here hx rfl (hb hby at_164) rfl ?_
      refine XS.iconst Xo166.here hx rfl (hb hby at_166) ?_
      refine XS.icmpYes Xo166.here hx rfl (pc0 := 167) (pc' := 178) rfl (hb hby at_167) rfl (XT.ii_le_t (by decide : ¬ ((5 : Int32) < (4 : Int32)))) (by decide) (by decide) ?_
      refine XS.iload Xo166.here hx rfl (hb hby at_178) rfl ?_
      refine XS.bipush Xo166.here hx rfl (hb hby at_180) ?_
      refine XS.icmpYes Xo166.here hx rfl (pc0 := 182) (pc' := 195) rfl (hb hby at_182) rfl (XT.ii_le_t (by decide : ¬ ((6 : Int32) < (4 : Int32)))) (by decide) (by decide) ?_
      refine XS.iload Xo166.here hx rfl (hb hby at_195) rfl ?_
      refine XS.bipush Xo166.here hx rfl (hb hby at_197) ?_
      refine XS.icmpYes Xo166.here hx rfl (pc0 := 199) (pc' := 212) rfl (hb hby at_199) rfl (XT.ii_le_t (by decide : ¬ ((7 : Int32) < (4 : Int32)))) (by decide) (by decide) ?_
      refine XS.aload Xo166.here hx rfl (hb hby at_212) rfl rfl ?_
      refine stk168 _ ?_
      show Steps p.tables e below (Tk168.setTop (mkF m 217 #[.val (.int p0), .val (.long q1), .second, .val (.long q2), .second, .val (.long q3), .second, .val (.long q4), .second, .val (.int 4), .val (.ref bn1), .val (.ref bn133), .unset, .unset] [(.ref bk168_0)])) _
      refine XS.astore Xk168.here hx rfl (hb hby at_217) rfl rfl (l' := #[.val (.int p0), .val (.long q1), .second, .val (.long q2), .second, .val (.long q3), .second, .val (.long q4), .second, .val (.int 4), .val (.ref bn1), .val (.ref bn133), .val (.ref bk168_0), .unset]) rfl ?_
      refine XS.aload Xk168.here hx rfl (hb hby at_219) rfl rfl ?_
      refine Xk168.arraylength hx Aro170.1 (State.isArrayOf_alike hZ.alike Aro170.2.1) (g := (mkF m 221 #[.val (.int p0), .val (.long q1), .second, .val (.long q2), .second, .val (.long q3), .second, .val (.long q4), .second, .val (.int 4), .val (.ref bn1), .val (.ref bn133), .val (.ref bk168_0), .unset] [(.ref bk168_0)])) rfl rfl (hb hby at_221) _ ?_
      rw [len_of So170 No170]
      show Steps p.tables e below (Tk168.setTop (mkF m 222 #[.val (.int p0), .val (.long q1), .second, .val (.long q2), .second, .val (.long q3), .second, .val (.long q4), .second, .val (.int 4), .val (.ref bn1), .val (.ref bn133), .val (.ref bk168_0), .unset] [(.int 3)])) _
      refine XS.iload Xk168.here hx rfl (hb hby at_222) rfl ?_
      refine XS.iconst Xk168.here hx rfl (hb hby at_224) ?_
      refine XS.idiv Xk168.here hx rfl (hb hby at_225) rfl (by decide) ?_
      show Steps p.tables e below (Tk168.setTop (mkF m 226 #[.val (.int p0), .val (.long q1), .second, .val (.long q2), .second, .val (.long q3), .second, .val (.long q4), .second, .val (.int 4), .val (.ref bn1), .val (.ref bn133), .val (.ref bk168_0), .unset] [(.int 2), (.int 3)])) _
      refine XS.iconst Xk168.here hx rfl (hb hby at_226) ?_
      refine XS.iadd Xk168.here hx rfl (hb hby at_227) rfl ?_
      refine XS.icmpYes Xk168.here hx rfl (pc0 := 228) (pc' := 233) rfl (hb hby at_228) rfl (XT.ii_eq_t (by decide : (3 : Int32) = (3 : Int32))) (by decide) (by decide) ?_
      refine XS.aload Xk168.here hx rfl (hb hby at_233) rfl rfl ?_
      refine XS.iconst Xk168.here hx rfl (hb hby at_235) ?_
      refine Xk168.daload hx (j := (0 : Int32)) (v := (.double (own_vh4_0 (FP.i2d q1.toInt32) (own_v0_1 q1)))) Aro170.1 (State.isArrayOf_alike hZ.alike Aro170.2.1) Aro170.2.2 hi171 ha172 (g := (mkF m 236 #[.val (.int p0), .val (.long q1), .second, .val (.long q2), .second, .val (.long q3), .second, .val (.long q4), .second, .val (.int 4), .val (.ref bn1), .val (.ref bn133), .val (.ref bk168_0), .unset] [(.int 0), (.ref bk168_0)])) rfl rfl (hb hby at_236) _ ?_
      show Steps p.tables e below (Tk168.setTop (mkF m 237 #[.val (.int p0), .val (.long q1), .second, .val (.long q2), .second, .val (.long q3), .second, .val (.long q4), .second, .val (.int 4), .val (.ref bn1), .val (.ref bn133), .val (.ref bk168_0), .unset] [(.double (own_vh4_0 (FP.i2d q1.toInt32) (own_v0_1 q1)))])) _
      refine XS.aload Xk168.here hx rfl (hb hby at_237) rfl rfl ?_
      refine XS.iload Xk168.here hx rfl (hb hby at_239) rfl ?_
      refine XS.iconst Xk168.here hx rfl (hb hby at_241) ?_
      refine stk173 _ ?_
      show Steps p.tables e below (Tk173.setTop (mkF m 245 #[.val (.int p0), .val (.long q1), .second, .val (.long q2), .second, .val (.long q3), .second, .val (.long q4), .second, .val (.int 4), .val (.ref bn1), .val (.ref bn133), .val (.ref bk168_0), .unset] [(.double (own_rex02_0 (FP.i2d q1.toInt32) (own_v0_1 q1))), (.double (own_vh4_0 (FP.i2d q1.toInt32) (own_v0_1 q1)))])) _
      refine XS.dcmpS Xk173.here hx rfl (hb hby at_245) rfl rfl ?_
      refine XS.ifNo Xk173.here hx rfl (hb hby at_246) rfl (XT.i0_ne_f (hc246_5 hs35)) ?_
      refine XS.iconst Xk173.here hx rfl (hb hby at_249) ?_
      refine XS.goto Xk173.here hx rfl (pc0 := 250) (pc' := 254) rfl (hb hby at_250) (by decide) (by decide) ?_
      refine XS.istore Xk173.here hx rfl (hb hby at_254) rfl (l' := #[.val (.int p0), .val (.long q1), .second, .val (.long q2), .second, .val (.long q3), .second, .val (.long q4), .second, .val (.int 4), .val (.ref bn1), .val (.ref bn133), .val (.ref bk168_0), .val (.int 1)]) rfl ?_
      refine XS.aload Xk173.here hx rfl (hb hby at_256) rfl rfl ?_
      refine Xk173.arraylength hx (by rw [ek173]; exact Aro170.1) (State.isArrayOf_alike hZ.alike Aro170.2.1) (g := (mkF m 258 #[.val (.int p0), .val (.long q1), .second, .val (.long q2), .second, .val (.long q3), .second, .val (.long q4), .second, .val (.int 4), .val (.ref bn1), .val (.ref bn133), .val (.ref bk168_0), .val (.int 1)] [(.ref bk168_0)])) rfl rfl (hb hby at_258) _ ?_
      rw [len_of So170 No170]
      show Steps p.tables e below (Tk173.setTop (mkF m 259 #[.val (.int p0), .val (.long q1), .second, .val (.long q2), .second, .val (.long q3), .second, .val (.long q4), .second, .val (.int 4), .val (.ref bn1), .val (.ref bn133), .val (.ref bk168_0), .val (.int 1)] [(.int 3)])) _
      refine XS.iconst Xk173.here hx rfl (hb hby at_259) ?_
      refine XS.icmpNo Xk173.here hx rfl (hb hby at_260) rfl (XT.ii_le_f (by decide : (1 : Int32) < (3 : Int32))) ?_
      refine XS.iload Xk173.here hx rfl (hb hby at_263) rfl ?_
      refine XS.ifNo Xk173.here hx rfl (hb hby at_265) rfl (XT.i0_eq_f (by decide : ¬ ((1 : Int32) = (0 : Int32)))) ?_
      refine XS.aload Xk173.here hx rfl (hb hby at_268) rfl rfl ?_
      refine XS.iconst Xk173.here hx rfl (hb hby at_270) ?_
      refine Xk173.daload hx (j := (1 : Int32)) (v := (.double (own_vh4_3 (own_v0_1 q1) (FP.i2d q2.toInt32) (own_v0_2 q2)))) (by rw [ek173]; exact Aro170.1) (State.isArrayOf_alike hZ.alike Aro170.2.1) Aro170.2.2 hi175 ha176 (g := (mkF m 271 #[.val (.int p0), .val (.long q1), .second, .val (.long q2), .second, .val (.long q3), .second, .val (.long q4), .second, .val (.int 4), .val (.ref bn1), .val (.ref bn133), .val (.ref bk168_0), .val (.int 1)] [(.int 1), (.ref bk168_0)])) rfl rfl (hb hby at_271) _ ?_
      show Steps p.tables e below (Tk173.setTop (mkF m 272 #[.val (.int p0), .val (.long q1), .second, .val (.long q2), .second, .val (.long q3), .second, .val (.long q4), .second, .val (.int 4), .val (.ref bn1), .val (.ref bn133), .val (.ref bk168_0), .val (.int 1)] [(.double (own_vh4_3 (own_v0_1 q1) (FP.i2d q2.toInt32) (own_v0_2 q2)))])) _
      refine XS.aload Xk173.here hx rfl (hb hby at_272) rfl rfl ?_
      refine XS.iload Xk173.here hx rfl (hb hby at_274) rfl ?_
      refine XS.iconst Xk173.here hx rfl (hb hby at_276) ?_
      refine stk177 _ ?_
      show Steps p.tables e below (Tk177.setTop (mkF m 280 #[.val (.int p0), .val (.long q1), .second, .val (.long q2), .second, .val (.long q3), .second, .val (.long q4), .second, .val (.int 4), .val (.ref bn1), .val (.ref bn133), .val (.ref bk168_0), .val (.int 1)] [(.double (own_rex14_0 (own_v0_1 q1) (FP.i2d q2.toInt32) (own_v0_2 q2))), (.double (own_vh4_3 (own_v0_1 q1) (FP.i2d q2.toInt32) (own_v0_2 q2)))])) _
      refine XS.dcmpS Xk177.here hx rfl (hb hby at_280) rfl rfl ?_
      refine XS.ifNo Xk177.here hx rfl (hb hby at_281) rfl (XT.i0_ne_f (hc281_3 hs35)) ?_
      refine XS.iconst Xk177.here hx rfl (hb hby at_284) ?_
      refine XS.goto Xk177.here hx rfl (pc0 := 285) (pc' := 289) rfl (hb hby at_285) (by decide) (by decide) ?_
      refine XS.istore Xk177.here hx rfl (hb hby at_289) rfl (l' := #[.val (.int p0), .val (.long q1), .second, .val (.long q2), .second, .val (.long q3), .second, .val (.long q4), .second, .val (.int 4), .val (.ref bn1), .val (.ref bn133), .val (.ref bk168_0), .val (.int 1)]) rfl ?_
      refine XS.aload Xk177.here hx rfl (hb hby at_291) rfl rfl ?_
      refine Xk177.arraylength hx (by rw [ek177]; exact Aro170.1) (State.isArrayOf_alike hZ.alike Aro170.2.1) (g := (mkF m 293 #[.val (.int p0), .val (.long q1), .second, .val (.long q2), .second, .val (.long q3), .second, .val (.long q4), .second, .val (.int 4), .val (.ref bn1), .val (.ref bn133), .val (.ref bk168_0), .val (.int 1)] [(.ref bk168_0)])) rfl rfl (hb hby at_293) _ ?_
      rw [len_of So170 No170]
      show Steps p.tables e below (Tk177.setTop (mkF m 294 #[.val (.int p0), .val (.long q1), .second, .val (.long q2), .second, .val (.long q3), .second, .val (.long q4), .second, .val (.int 4), .val (.ref bn1), .val (.ref bn133), .val (.ref bk168_0), .val (.int 1)] [(.int 3)])) _
      refine XS.iconst Xk177.here hx rfl (hb hby at_294) ?_
      refine XS.icmpNo Xk177.here hx rfl (hb hby at_295) rfl (XT.ii_le_f (by decide : (2 : Int32) < (3 : Int32))) ?_
      refine XS.iload Xk177.here hx rfl (hb hby at_298) rfl ?_
      refine XS.ifNo Xk177.here hx rfl (hb hby at_300) rfl (XT.i0_eq_f (by decide : ¬ ((1 : Int32) = (0 : Int32)))) ?_
      refine XS.aload Xk177.here hx rfl (hb hby at_303) rfl rfl ?_
      refine XS.iconst Xk177.here hx rfl (hb hby at_305) ?_
      refine Xk177.daload hx (j := (2 : Int32)) (v := (.double (own_vh4_4 (own_v0_2 q2)))) (by rw [ek177]; exact Aro170.1) (State.isArrayOf_alike hZ.alike Aro170.2.1) Aro170.2.2 hi178 ha179 (g := (mkF m 306 #[.val (.int p0), .val (.long q1), .second, .val (.long q2), .second, .val (.long q3), .second, .val (.long q4), .second, .val (.int 4), .val (.ref bn1), .val (.ref bn133), .val (.ref bk168_0), .val (.int 1)] [(.int 2), (.ref bk168_0)])) rfl rfl (hb hby at_306) _ ?_
      show Steps p.tables e below (Tk177.setTop (mkF m 307 #[.val (.int p0), .val (.long q1), .second, .val (.long q2), .second, .val (.long q3), .second, .val (.long q4), .second, .val (.int 4), .val (.ref bn1), .val (.ref bn133), .val (.ref bk168_0), .val (.int 1)] [(.double (own_vh4_4 (own_v0_2 q2)))])) _
      refine XS.aload Xk177.here hx rfl (hb hby at_307) rfl rfl ?_
      refine XS.iload Xk177.here hx rfl (hb hby at_309) rfl ?_
      refine XS.iconst Xk177.here hx rfl (hb hby at_311) ?_
      refine stk180 _ ?_
      show Steps p.tables e below (Tk180.setTop (mkF m 315 #[.val (.int p0), .val (.long q1), .second, .val (.long q2), .second, .val (.long q3), .second, .val (.long q4), .second, .val (.int 4), .val (.ref bn1), .val (.ref bn133), .val (.ref bk168_0), .val (.int 1)] [(.double (own_rex24_0 (own_v0_2 q2))), (.double (own_vh4_4 (own_v0_2 q2)))])) _
      refine XS.dcmpS Xk180.here hx rfl (hb hby at_315) rfl rfl ?_
      refine XS.ifNo Xk180.here hx rfl (hb hby at_316) rfl (XT.i0_ne_f (hc316 hs35)) ?_
      refine XS.iconst Xk180.here hx rfl (hb hby at_319) ?_
      refine XS.goto Xk180.here hx rfl (pc0 := 320) (pc' := 324) rfl (hb hby at_320) (by decide) (by decide) ?_
      refine XS.istore Xk180.here hx rfl (hb hby at_324) rfl (l' := #[.val (.int p0), .val (.long q1), .second, .val (.long q2), .second, .val (.long q3), .second, .val (.long q4), .second, .val (.int 4), .val (.ref bn1), .val (.ref bn133), .val (.ref bk168_0), .val (.int 1)]) rfl ?_
      refine XS.aload Xk180.here hx rfl (hb hby at_326) rfl rfl ?_
      refine Xk180.arraylength hx (by rw [ek180]; exact Aro170.1) (State.isArrayOf_alike hZ.alike Aro170.2.1) (g := (mkF m 328 #[.val (.int p0), .val (.long q1), .second, .val (.long q2), .second, .val (.long q3), .second, .val (.long q4), .second, .val (.int 4), .val (.ref bn1), .val (.ref bn133), .val (.ref bk168_0), .val (.int 1)] [(.ref bk168_0)])) rfl rfl (hb hby at_328) _ ?_
      rw [len_of So170 No170]
      show Steps p.tables e below (Tk180.setTop (mkF m 329 #[.val (.int p0), .val (.long q1), .second, .val (.long q2), .second, .val (.long q3), .second, .val (.long q4), .second, .val (.int 4), .val (.ref bn1), .val (.ref bn133), .val (.ref bk168_0), .val (.int 1)] [(.int 3)])) _
      refine XS.iconst Xk180.here hx rfl (hb hby at_329) ?_
      refine XS.icmpYes Xk180.here hx rfl (pc0 := 330) (pc' := 361) rfl (hb hby at_330) rfl (XT.ii_le_t (by decide : ¬ ((3 : Int32) < (3 : Int32)))) (by decide) (by decide) ?_
      refine XS.aload Xk180.here hx rfl (hb hby at_361) rfl rfl ?_
      refine Xk180.arraylength hx (by rw [ek180]; exact Aro170.1) (State.isArrayOf_alike hZ.alike Aro170.2.1) (g := (mkF m 363 #[.val (.int p0), .val (.long q1), .second, .val (.long q2), .second, .val (.long q3), .second, .val (.long q4), .second, .val (.int 4), .val (.ref bn1), .val (.ref bn133), .val (.ref bk168_0), .val (.int 1)] [(.ref bk168_0)])) rfl rfl (hb hby at_363) _ ?_
      rw [len_of So170 No170]
      show Steps p.tables e below (Tk180.setTop (mkF m 364 #[.val (.int p0), .val (.long q1), .second, .val (.long q2), .second, .val (.long q3), .second, .val (.long q4), .second, .val (.int 4), .val (.ref bn1), .val (.ref bn133), .val (.ref bk168_0), .val (.int 1)] [(.int 3)])) _
      refine XS.iconst Xk180.here hx rfl (hb hby at_364) ?_
      refine XS.icmpYes Xk180.here hx rfl (pc0 := 365) (pc' := 396) rfl (hb hby at_365) rfl (XT.ii_le_t (by decide : ¬ ((4 : Int32) < (3 : Int32)))) (by decide) (by decide) ?_
      refine XS.iload Xk180.here hx rfl (hb hby at_396) rfl ?_
      show Steps p.tables e below (Tk180.setTop (mkF m 398 #[.val (.int p0), .val (.long q1), .second, .val (.long q2), .second, .val (.long q3), .second, .val (.long q4), .second, .val (.int 4), .val (.ref bn1), .val (.ref bn133), .val (.ref bk168_0), .val (.int 1)] [(.int 1)])) _
      exact retN Xk180 hx (t := .boolean) Bd.returns (by simp) (hb hby at_398) hr
    · show own_Q0 Z p0 q1 q2 q3 q4 h0 n0 _ Tk180.heap _
      rw [ek180]
      exact ⟨rfl, Nk180⟩
  · have K181 : ∀ t, Steps p.tables e below (To33.setTop (mkF m 89 #[.val (.int p0), .val (.long q1), .second, .val (.long q2), .second, .val (.long q3), .second, .val (.long q4), .second, .val (.int 5), .val (.ref bn1), .unset, .unset, .unset] [])) t → Steps p.tables e below (To33.setTop (mkF m 89 #[.val (.int p0), .val (.long q1), .second, .val (.long q2), .second, .val (.long q3), .second, .val (.long q4), .second, .val (.int (own_v0_0 p0)), .val (.ref bn1), .unset, .unset, .unset] [])) t := by intro t kt; rw [hs35]; exact kt
    obtain ⟨Tn182, hn182, kn182, Xn182, en182, En182, An182, stn182⟩ := newP Xo33 hx hZ (own_W hw 1 rfl) eo33 (g := (mkF m 91 #[.val (.int p0), .val (.long q1), .second, .val (.long q2), .second, .val (.long q3), .second, .val (.long q4), .second, .val (.int 5), .val (.ref bn1), .unset, .unset, .unset] [(.int 5)])) rfl (hb hby at_91) rfl (by decide) (cap := 5) (by decide) (by decide) (by decide) (by decide)
    obtain ⟨bn182, gn182⟩ : ∃ z, z = ho33.size := ⟨_, rfl⟩
    rw [← gn182] at An182 stn182
    have g_bn182 : n0 ≤ bn182 := Nat.le_trans (Nat.le_trans Z0 sz34) (Nat.le_of_eq gn182.symm)
    have sz_bn182 : h0.size ≤ bn182 := Nat.le_trans sz34 (Nat.le_of_eq gn182.symm)
    have sz183 : h0.size ≤ hn182.size := Nat.le_trans sz34 En182.1
    have V_bn182 : Arv Z hn182 bn182 kn182 .double (5 : Int32) [(.double 0), (.double 0), (.double 0), (.double 0), (.double 0)] (.double 0) := (Arv.new An182 (by decide)).pad (pad_rep [] (.double 0) 5)
    have F184 := (Vwo33.ext En182)
    obtain ⟨clo185, Aro185, qo185, So185, No185, Ho185, Go185⟩ := id F184
    have hi186 := inb_of (j := (0 : Int32)) So185 ⟨by decide, by decide⟩
    have ha187 : _ = some (Value.double (FP.i2d q1.toInt32)) := Ho185.at hi186 rfl
    obtain ⟨clo188, Aro188, qo188, So188, No188, Ho188, Go188⟩ := id V_bn182
    have hi189 := inb_of (j := (0 : Int32)) So188 ⟨by decide, by decide⟩
    obtain ⟨To190, ho190, Xo190, eo190, Wo190, sto190⟩ := stD Xn182 hx hZ en182 Aro188 (j := (0 : Int32)) hi189 (g := (mkF m 107 #[.val (.int p0), .val (.long q1), .second, .val (.long q2), .second, .val (.long q3), .second, .val (.long q4), .second, .val (.int 5), .val (.ref bn1), .val (.ref bn182), .unset, .unset] [(.double (FP.i2d q1.toInt32)), (.int 0), (.ref bn182)])) rfl rfl (hb hby at_107)
    have Vwo190 : Arv Z ho190 bn182 kn182 .double (5 : Int32) [(.double (FP.i2d q1.toInt32)), (.double 0), (.double 0), (.double 0), (.double 0)] (.double 0) := Arv.set Aro188 qo188 So188 No188 Ho188 Go188 rfl Wo190 0 rfl (Nat.le_of_ble_eq_true rfl)
    have sz191 : h0.size ≤ ho190.size := Nat.le_trans sz183 (Nat.le_of_eq Wo190.size.symm)
    have Nfo190 := Fr.snoc Xo190 Nfo33 g_bn182
    have ne192 : bn1 ≠ bn182 := (Nat.ne_of_lt (Nat.lt_of_lt_of_le Vwo33.lt (Nat.le_of_eq gn182.symm)))
    have F193 := (F184.other Wo190 ne192)
    obtain ⟨clo194, Aro194, qo194, So194, No194, Ho194, Go194⟩ := id F193
    have hi195 := inb_of (j := (1 : Int32)) So194 ⟨by decide, by decide⟩
    have ha196 : _ = some (Value.double (own_v0_1 q1)) := Ho194.at hi195 rfl
    obtain ⟨clo197, Aro197, qo197, So197, No197, Ho197, Go197⟩ := id Vwo190
    have hi198 := inb_of (j := (1 : Int32)) So197 ⟨by decide, by decide⟩
    obtain ⟨To199, ho199, Xo199, eo199, Wo199, sto199⟩ := stD Xo190 hx hZ eo190 Aro197 (j := (1 : Int32)) hi198 (g := (mkF m 121 #[.val (.int p0), .val (.long q1), .second, .val (.long q2), .second, .val (.long q3), .second, .val (.long q4), .second, .val (.int 5), .val (.ref bn1), .val (.ref bn182), .unset, .unset] [(.double (own_v0_1 q1)), (.int 1), (.ref bn182)])) rfl rfl (hb hby at_121)
    have Vwo199 : Arv Z ho199 bn182 kn182 .double (5 : Int32) [(.double (FP.i2d q1.toInt32)), (.double (own_v0_1 q1)), (.double 0), (.double 0), (.double 0)] (.double 0) := Arv.set Aro197 qo197 So197 No197 Ho197 Go197 rfl Wo199 1 rfl (Nat.le_of_ble_eq_true rfl)
    have sz200 : h0.size ≤ ho199.size := Nat.le_trans sz191 (Nat.le_of_eq Wo199.size.symm)
    have Nfo199 := Fr.snoc Xo199 Nfo190 g_bn182
    have F201 := (F193.other Wo199 ne192)
    obtain ⟨clo202, Aro202, qo202, So202, No202, Ho202, Go202⟩ := id F201
    have hi203 := inb_of (j := (2 : Int32)) So202 ⟨by decide, by decide⟩
    have ha204 : _ = some (Value.double (FP.i2d q2.toInt32)) := Ho202.at hi203 rfl
    obtain ⟨clo205, Aro205, qo205, So205, No205, Ho205, Go205⟩ := id Vwo199
    have hi206 := inb_of (j := (2 : Int32)) So205 ⟨by decide, by decide⟩
    obtain ⟨To207, ho207, Xo207, eo207, Wo207, sto207⟩ := stD Xo199 hx hZ eo199 Aro205 (j := (2 : Int32)) hi206 (g := (mkF m 135 #[.val (.int p0), .val (.long q1), .second, .val (.long q2), .second, .val (.long q3), .second, .val (.long q4), .second, .val (.int 5), .val (.ref bn1), .val (.ref bn182), .unset, .unset] [(.double (FP.i2d q2.toInt32)), (.int 2), (.ref bn182)])) rfl rfl (hb hby at_135)
    have Vwo207 : Arv Z ho207 bn182 kn182 .double (5 : Int32) [(.double (FP.i2d q1.toInt32)), (.double (own_v0_1 q1)), (.double (FP.i2d q2.toInt32)), (.double 0), (.double 0)] (.double 0) := Arv.set Aro205 qo205 So205 No205 Ho205 Go205 rfl Wo207 2 rfl (Nat.le_of_ble_eq_true rfl)
    have sz208 : h0.size ≤ ho207.size := Nat.le_trans sz200 (Nat.le_of_eq Wo207.size.symm)
    have Nfo207 := Fr.snoc Xo207 Nfo199 g_bn182
    have F209 := (F201.other Wo207 ne192)
    obtain ⟨clo210, Aro210, qo210, So210, No210, Ho210, Go210⟩ := id F209
    have hi211 := inb_of (j := (3 : Int32)) So210 ⟨by decide, by decide⟩
    have ha212 : _ = some (Value.double (own_v0_2 q2)) := Ho210.at hi211 rfl
    obtain ⟨clo213, Aro213, qo213, So213, No213, Ho213, Go213⟩ := id Vwo207
    have hi214 := inb_of (j := (3 : Int32)) So213 ⟨by decide, by decide⟩
    obtain ⟨To215, ho215, Xo215, eo215, Wo215, sto215⟩ := stD Xo207 hx hZ eo207 Aro213 (j := (3 : Int32)) hi214 (g := (mkF m 149 #[.val (.int p0), .val (.long q1), .second, .val (.long q2), .second, .val (.long q3), .second, .val (.long q4), .second, .val (.int 5), .val (.ref bn1), .val (.ref bn182), .unset, .unset] [(.double (own_v0_2 q2)), (.int 3), (.ref bn182)])) rfl rfl (hb hby at_149)
    have Vwo215 : Arv Z ho215 bn182 kn182 .double (5 : Int32) [(.double (FP.i2d q1.toInt32)), (.double (own_v0_1 q1)), (.double (FP.i2d q2.toInt32)), (.double (own_v0_2 q2)), (.double 0)] (.double 0) := Arv.set Aro213 qo213 So213 No213 Ho213 Go213 rfl Wo215 3 rfl (Nat.le_of_ble_eq_true rfl)
    have sz216 : h0.size ≤ ho215.size := Nat.le_trans sz208 (Nat.le_of_eq Wo215.size.symm)
    have Nfo215 := Fr.snoc Xo215 Nfo207 g_bn182
    have F217 := (F209.other Wo215 ne192)
    obtain ⟨clo218, Aro218, qo218, So218, No218, Ho218, Go218⟩ := id F217
    have hi219 := inb_of (j := (4 : Int32)) So218 ⟨by decide, by decide⟩
    have ha220 : _ = some (Value.double (FP.i2d q3.toInt32)) := Ho218.at hi219 rfl
    obtain ⟨clo221, Aro221, qo221, So221, No221, Ho221, Go221⟩ := id Vwo215
    have hi222 := inb_of (j := (4 : Int32)) So221 ⟨by decide, by decide⟩
    obtain ⟨To223, ho223, Xo223, eo223, Wo223, sto223⟩ := stD Xo215 hx hZ eo215 Aro221 (j := (4 : Int32)) hi222 (g := (mkF m 163 #[.val (.int p0), .val (.long q1), .second, .val (.long q2), .second, .val (.long q3), .second, .val (.long q4), .second, .val (.int 5), .val (.ref bn1), .val (.ref bn182), .unset, .unset] [(.double (FP.i2d q3.toInt32)), (.int 4), (.ref bn182)])) rfl rfl (hb hby at_163)
    have Vwo223 : Arv Z ho223 bn182 kn182 .double (5 : Int32) [(.double (FP.i2d q1.toInt32)), (.double (own_v0_1 q1)), (.double (FP.i2d q2.toInt32)), (.double (own_v0_2 q2)), (.double (FP.i2d q3.toInt32))] (.double 0) := Arv.set Aro221 qo221 So221 No221 Ho221 Go221 rfl Wo223 4 rfl (Nat.le_of_ble_eq_true rfl)
    have sz224 : h0.size ≤ ho223.size := Nat.le_trans sz216 (Nat.le_of_eq Wo223.size.symm)
    have Nfo223 := Fr.snoc Xo223 Nfo215 g_bn182
    obtain ⟨_, _, ⟨Tk225, Lk225, kk225, nk225⟩, -, Xk225, ⟨Lck225, hQk225, lk225, yk225, zk225⟩, stk225⟩ := Jvm.LawKit.callS Xo223 hx (y := (⟨"com/example/surepath/surepath/TravelTime$Lattices", "halved", "([D)[D"⟩ : MethodName)) hown (mvT hZ (own_W hw 2 rfl)) (mvT hZ (own_W hw 3 rfl)) (mvT hZ (own_W hw 4 rfl)) (mvT hZ (own_W hw 5 rfl)) (by decide) (backOf (W := 0) (own_rmh5 l Z a0 hw [] bn182 kn182 (FP.i2d q1.toInt32) (own_v0_1 q1) (FP.i2d q2.toInt32) (own_v0_2 q2) (FP.i2d q3.toInt32) ho223 n0 (Nat.le_trans Z0 sz224) Vwo223 (c214_nn32_5 hs35) (c214_nn49_4 hs35) (c214_nn50_4 hs35) (c214_nn67_4 hs35) (c214_nn32_2_4 hs35) (c214_nn49_2_3 hs35) (c214_nn50_2_3 hs35) (c214_nn67_2_3 hs35) (c214_nn32_3_2 hs35)) hZ (own_W hw 5 rfl) (own_W hw 4 rfl) (by decide) (by decide)) (g := (mkF m 214 #[.val (.int p0), .val (.long q1), .second, .val (.long q2), .second, .val (.long q3), .second, .val (.long q4), .second, .val (.int 5), .val (.ref bn1), .val (.ref bn182), .unset, .unset] [(.ref bn182)])) rfl (by rw [hml]; rfl) (argsL := [(.ref bn182)]) (rest := []) (lenOf own_pd1 rfl) rfl (by show 2 * 0 + _ ≤ _; exact Nat.le_of_eq rfl) (hb hby at_214) (fun _ _ => ⟨rfl, eo223, (by decide : 2 + 1 ≤ _), (by decide : 13 + 3 ≤ _)⟩)
    dsimp only [Pt.U, Pt.locs, Pt.cells, Pt.slots] at Xk225 lk225 yk225 zk225 stk225 hQk225
    replace lk225 := lk225.symm; replace yk225 := yk225.symm; replace zk225 := zk225.symm; subst lk225 yk225 zk225
    obtain ⟨bk225_0, kk225_1, rfl, Nk225q, Kk225, lebk225_0, Qk225_0⟩ := hQk225
    have g_bk225_0 : n0 ≤ bk225_0 := Nat.le_trans (Nat.le_trans Z0 sz224) lebk225_0
    have sz_bk225_0 : h0.size ≤ bk225_0 := Nat.le_trans sz224 lebk225_0
    have sz226 : h0.size ≤ Tk225.heap.size := Nat.le_trans sz224 Kk225.1
    have Nk225 := Fr.app Nfo223 Nk225q
    obtain ⟨clo227, Aro227, qo227, So227, No227, Ho227, Go227⟩ := id Qk225_0
    have hi228 := inb_of (j := (0 : Int32)) So227 ⟨by decide, by decide⟩
    have ha229 : _ = some (Value.double (own_vh5_0 (FP.i2d q1.toInt32) (own_v0_1 q1))) := Ho227.at hi228 rfl
    have F231 := ((F217.other Wo223 ne192).keep Kk225 nin0)
    obtain ⟨_, _, ⟨Tk230, Lk230, kk230, nk230⟩, -, Xk230, ⟨Lck230, hQk230, lk230, yk230, zk230⟩, stk230⟩ := Jvm.LawKit.callS Xk225 hx (y := (⟨"com/example/surepath/surepath/LatticesHalvedPinLaw", "expect", "([DII)D"⟩ : MethodName)) hown (mvT hZ (own_W hw 6 rfl)) (mvT hZ (own_W hw 7 rfl)) (mvT hZ (own_W hw 8 rfl)) (mvT hZ (own_W hw 9 rfl)) (by decide) (backOf (W := 2) (own_rmex02 l Z a0 hw [] bn1 (5 : Int32) kn1 (FP.i2d q1.toInt32) (own_v0_1 q1) (FP.i2d q2.toInt32) (own_v0_2 q2) (FP.i2d q3.toInt32) (own_v0_3 q3) (FP.i2d q4.toInt32) (own_v0_4 q4) Tk225.heap n0 (Nat.le_trans Z0 sz226) F231 (c242_nn13_6 hs35) (by decide) (c242_nn22_6 hs35) (by decide) (c214_nn49_4 hs35) (c242_nn37_6 hs35)) hZ (own_W hw 9 rfl) (own_W hw 8 rfl) (by decide) (by decide)) (g := (mkF m 242 #[.val (.int p0), .val (.long q1), .second, .val (.long q2), .second, .val (.long q3), .second, .val (.long q4), .second, .val (.int 5), .val (.ref bn1), .val (.ref bn182), .val (.ref bk225_0), .unset] [(.int 0), (.int 5), (.ref bn1), (.double (own_vh5_0 (FP.i2d q1.toInt32) (own_v0_1 q1)))])) rfl (by rw [hml]; rfl) (argsL := [(.ref bn1), (.int 5), (.int 0)]) (rest := [(.double (own_vh5_0 (FP.i2d q1.toInt32) (own_v0_1 q1)))]) (lenOf own_pd0 rfl) rfl (by show 2 * 0 + _ ≤ _; exact Nat.le_of_eq rfl) (hb hby at_242) (fun _ _ => ⟨rfl, rfl, (by decide : 3 + 0 ≤ _), (by decide : 16 + 0 ≤ _)⟩)
    dsimp only [Pt.U, Pt.locs, Pt.cells, Pt.slots] at Xk230 lk230 yk230 zk230 stk230 hQk230
    replace lk230 := lk230.symm; replace yk230 := yk230.symm; replace zk230 := zk230.symm; subst lk230 yk230 zk230
    obtain ⟨rfl, Nk230q, ek230⟩ := hQk230
    have Nk230 := Fr.app Nk225 Nk230q
    have hi232 := inb_of (j := (1 : Int32)) So227 ⟨by decide, by decide⟩
    have ha233 : _ = some (Value.double (own_vh5_3 (own_v0_1 q1) (FP.i2d q2.toInt32) (own_v0_2 q2))) := Ho227.at hi232 rfl
    obtain ⟨_, _, ⟨Tk234, Lk234, kk234, nk234⟩, -, Xk234, ⟨Lck234, hQk234, lk234, yk234, zk234⟩, stk234⟩ := Jvm.LawKit.callS Xk230 hx (y := (⟨"com/example/surepath/surepath/LatticesHalvedPinLaw", "expect", "([DII)D"⟩ : MethodName)) hown (mvT hZ (own_W hw 6 rfl)) (mvT hZ (own_W hw 7 rfl)) (mvT hZ (own_W hw 8 rfl)) (mvT hZ (own_W hw 9 rfl)) (by decide) (backOf (W := 2) (own_rmex14 l Z a0 hw [] bn1 (5 : Int32) kn1 (FP.i2d q1.toInt32) (own_v0_1 q1) (FP.i2d q2.toInt32) (own_v0_2 q2) (FP.i2d q3.toInt32) (own_v0_3 q3) (FP.i2d q4.toInt32) (own_v0_4 q4) Tk225.heap n0 (Nat.le_trans Z0 sz226) F231 (by decide) (c214_nn49_4 hs35) (by decide) (c277_nn22_4 hs35) (by decide) (c214_nn49_2_3 hs35) (c277_nn37_4 hs35)) hZ (own_W hw 9 rfl) (own_W hw 8 rfl) (by decide) (by decide)) (g := (mkF m 277 #[.val (.int p0), .val (.long q1), .second, .val (.long q2), .second, .val (.long q3), .second, .val (.long q4), .second, .val (.int 5), .val (.ref bn1), .val (.ref bn182), .val (.ref bk225_0), .val (.int 1)] [(.int 1), (.int 5), (.ref bn1), (.double (own_vh5_3 (own_v0_1 q1) (FP.i2d q2.toInt32) (own_v0_2 q2)))])) rfl (by rw [hml]; rfl) (argsL := [(.ref bn1), (.int 5), (.int 1)]) (rest := [(.double (own_vh5_3 (own_v0_1 q1) (FP.i2d q2.toInt32) (own_v0_2 q2)))]) (lenOf own_pd0 rfl) rfl (by show 2 * 0 + _ ≤ _; exact Nat.le_of_eq rfl) (hb hby at_277) (fun _ _ => ⟨rfl, ek230, (by decide : 3 + 0 ≤ _), (by decide : 16 + 0 ≤ _)⟩)
    dsimp only [Pt.U, Pt.locs, Pt.cells, Pt.slots] at Xk234 lk234 yk234 zk234 stk234 hQk234
    replace lk234 := lk234.symm; replace yk234 := yk234.symm; replace zk234 := zk234.symm; subst lk234 yk234 zk234
    obtain ⟨rfl, Nk234q, ek234⟩ := hQk234
    have Nk234 := Fr.app Nk230 Nk234q
    have hi235 := inb_of (j := (2 : Int32)) So227 ⟨by decide, by decide⟩
    have ha236 : _ = some (Value.double (own_vh5_5 (own_v0_2 q2) (FP.i2d q3.toInt32))) := Ho227.at hi235 rfl
    obtain ⟨_, _, ⟨Tk237, Lk237, kk237, nk237⟩, -, Xk237, ⟨Lck237, hQk237, lk237, yk237, zk237⟩, stk237⟩ := Jvm.LawKit.callS Xk234 hx (y := (⟨"com/example/surepath/surepath/LatticesHalvedPinLaw", "expect", "([DII)D"⟩ : MethodName)) hown (mvT hZ (own_W hw 6 rfl)) (mvT hZ (own_W hw 7 rfl)) (mvT hZ (own_W hw 8 rfl)) (mvT hZ (own_W hw 9 rfl)) (by decide) (backOf (W := 2) (own_rmex25 l Z a0 hw [] bn1 (5 : Int32) kn1 (FP.i2d q1.toInt32) (own_v0_1 q1) (FP.i2d q2.toInt32) (own_v0_2 q2) (FP.i2d q3.toInt32) (own_v0_3 q3) (FP.i2d q4.toInt32) (own_v0_4 q4) Tk225.heap n0 (Nat.le_trans Z0 sz226) F231 (by decide) (c214_nn49_2_3 hs35) (by decide) (c312_nn22_2 hs35) (by decide) (c242_nn13_6 hs35) (c312_nn37_2 hs35)) hZ (own_W hw 9 rfl) (own_W hw 8 rfl) (by decide) (by decide)) (g := (mkF m 312 #[.val (.int p0), .val (.long q1), .second, .val (.long q2), .second, .val (.long q3), .second, .val (.long q4), .second, .val (.int 5), .val (.ref bn1), .val (.ref bn182), .val (.ref bk225_0), .val (.int 1)] [(.int 2), (.int 5), (.ref bn1), (.double (own_vh5_5 (own_v0_2 q2) (FP.i2d q3.toInt32)))])) rfl (by rw [hml]; rfl) (argsL := [(.ref bn1), (.int 5), (.int 2)]) (rest := [(.double (own_vh5_5 (own_v0_2 q2) (FP.i2d q3.toInt32)))]) (lenOf own_pd0 rfl) rfl (by show 2 * 0 + _ ≤ _; exact Nat.le_of_eq rfl) (hb hby at_312) (fun _ _ => ⟨rfl, ek234, (by decide : 3 + 0 ≤ _), (by decide : 16 + 0 ≤ _)⟩)
    dsimp only [Pt.U, Pt.locs, Pt.cells, Pt.slots] at Xk237 lk237 yk237 zk237 stk237 hQk237
    replace lk237 := lk237.symm; replace yk237 := yk237.symm; replace zk237 := zk237.symm; subst lk237 yk237 zk237
    obtain ⟨rfl, Nk237q, ek237⟩ := hQk237
    have Nk237 := Fr.app Nk234 Nk237q
    obtain ⟨fs, hr, hrun, hended, hW, hsame⟩ := Xk237.leave (v := some (.int 1)) (fun h => by rw [Bd.returns] at h; cases h)
    refine ⟨_, _, pre0 _ (Ks35 _ (K181 _ (?_))), hrun, hended, _, _, rfl, ?_, ⟨_, rfl⟩, hW, hsame.mono (by decide) (by decide)⟩
    · show Steps p.tables e below (To33.setTop (mkF m 89 #[.val (.int p0), .val (.long q1), .second, .val (.long q2), .second, .val (.long q3), .second, .val (.long q4), .second, .val (.int 5), .val (.ref bn1), .unset, .unset, .unset] [])) _
      refine XS.iload Xo33.here hx rfl (hb hby at_89) rfl ?_
      refine stn182 _ ?_
      refine XS.astore Xn182.here hx rfl (hb hby at_93) rfl rfl (l' := #[.val (.int p0), .val (.long q1), .second, .val (.long q2), .second, .val (.long q3), .second, .val (.long q4), .second, .val (.int 5), .val (.ref bn1), .val (.ref bn182), .unset, .unset]) rfl ?_
      refine XS.iload Xn182.here hx rfl (hb hby at_95) rfl ?_
      refine XS.ifNo Xn182.here hx rfl (hb hby at_97) rfl (XT.i0_le_f (by decide : (0 : Int32) < (5 : Int32))) ?_
      refine XS.aload Xn182.here hx rfl (hb hby at_100) rfl rfl ?_
      refine XS.iconst Xn182.here hx rfl (hb hby at_102) ?_
      refine XS.aload Xn182.here hx rfl (hb hby at_103) rfl rfl ?_
      refine XS.iconst Xn182.here hx rfl (hb hby at_105) ?_
      refine Xn182.daload hx (j := (0 : Int32)) (v := (.double (FP.i2d q1.toInt32))) (by rw [en182]; exact Aro185.1) (State.isArrayOf_alike hZ.alike Aro185.2.1) Aro185.2.2 hi186 ha187 (g := (mkF m 106 #[.val (.int p0), .val (.long q1), .second, .val (.long q2), .second, .val (.long q3), .second, .val (.long q4), .second, .val (.int 5), .val (.ref bn1), .val (.ref bn182), .unset, .unset] [(.int 0), (.ref bn1), (.int 0), (.ref bn182)])) rfl rfl (hb hby at_106) _ ?_
      show Steps p.tables e below (Tn182.setTop (mkF m 107 #[.val (.int p0), .val (.long q1), .second, .val (.long q2), .second, .val (.long q3), .second, .val (.long q4), .second, .val (.int 5), .val (.ref bn1), .val (.ref bn182), .unset, .unset] [(.double (FP.i2d q1.toInt32)), (.int 0), (.ref bn182)])) _
      refine sto190 _ ?_
      refine XS.iload Xo190.here hx rfl (hb hby at_108) rfl ?_
      refine XS.iconst Xo190.here hx rfl (hb hby at_110) ?_
      refine XS.icmpNo Xo190.here hx rfl (hb hby at_111) rfl (XT.ii_le_f (by decide : (1 : Int32) < (5 : Int32))) ?_
      refine XS.aload Xo190.here hx rfl (hb hby at_114) rfl rfl ?_
      refine XS.iconst Xo190.here hx rfl (hb hby at_116) ?_
      refine XS.aload Xo190.here hx rfl (hb hby at_117) rfl rfl ?_
      refine XS.iconst Xo190.here hx rfl (hb hby at_119) ?_
      refine Xo190.daload hx (j := (1 : Int32)) (v := (.double (own_v0_1 q1))) (by rw [eo190]; exact Aro194.1) (State.isArrayOf_alike hZ.alike Aro194.2.1) Aro194.2.2 hi195 ha196 (g := (mkF m 120 #[.val (.int p0), .val (.long q1), .second, .val (.long q2), .second, .val (.long q3), .second, .val (.long q4), .second, .val (.int 5), .val (.ref bn1), .val (.ref bn182), .unset, .unset] [(.int 1), (.ref bn1), (.int 1), (.ref bn182)])) rfl rfl (hb hby at_120) _ ?_
      show Steps p.tables e below (To190.setTop (mkF m 121 #[.val (.int p0), .val (.long q1), .second, .val (.long q2), .second, .val (.long q3), .second, .val (.long q4), .second, .val (.int 5), .val (.ref bn1), .val (.ref bn182), .unset, .unset] [(.double (own_v0_1 q1)), (.int 1), (.ref bn182)])) _
      refine sto199 _ ?_
      refine XS.iload Xo199.here hx rfl (hb hby at_122) rfl ?_
      refine XS.iconst Xo199.here hx rfl (hb hby at_124) ?_
      refine XS.icmpNo Xo199.here hx rfl (hb hby at_125) rfl (XT.ii_le_f (by decide : (2 : Int32) < (5 : Int32))) ?_
      refine XS.aload Xo199.here hx rfl (hb hby at_128) rfl rfl ?_
      refine XS.iconst Xo199.here hx rfl (hb hby at_130) ?_
      refine XS.aload Xo199.here hx rfl (hb hby at_131) rfl rfl ?_
      refine XS.iconst Xo199.here hx rfl (hb hby at_133) ?_
      refine Xo199.daload hx (j := (2 : Int32)) (v := (.double (FP.i2d q2.toInt32))) (by rw [eo199]; exact Aro202.1) (State.isArrayOf_alike hZ.alike Aro202.2.1) Aro202.2.2 hi203 ha204 (g := (mkF m 134 #[.val (.int p0), .val (.long q1), .second, .val (.long q2), .second, .val (.long q3), .second, .val (.long q4), .second, .val (.int 5), .val (.ref bn1), .val (.ref bn182), .unset, .unset] [(.int 2), (.ref bn1), (.int 2), (.ref bn182)])) rfl rfl (hb hby at_134) _ ?_
      show Steps p.tables e below (To199.setTop (mkF m 135 #[.val (.int p0), .val (.long q1), .second, .val (.long q2), .second, .val (.long q3), .second, .val (.long q4), .second, .val (.int 5), .val (.ref bn1), .val (.ref bn182), .unset, .unset] [(.double (FP.i2d q2.toInt32)), (.int 2), (.ref bn182)])) _
      refine sto207 _ ?_
      refine XS.iload Xo207.here hx rfl (hb hby at_136) rfl ?_
      refine XS.iconst Xo207.here hx rfl (hb hby at_138) ?_
      refine XS.icmpNo Xo207.here hx rfl (hb hby at_139) rfl (XT.ii_le_f (by decide : (3 : Int32) < (5 : Int32))) ?_
      refine XS.aload Xo207.here hx rfl (hb hby at_142) rfl rfl ?_
      refine XS.iconst Xo207.here hx rfl (hb hby at_144) ?_
      refine XS.aload Xo207.here hx rfl (hb hby at_145) rfl rfl ?_
      refine XS.iconst Xo207.here hx rfl (hb hby at_147) ?_
      refine Xo207.daload hx (j := (3 : Int32)) (v := (.double (own_v0_2 q2))) (by rw [eo207]; exact Aro210.1) (State.isArrayOf_alike hZ.alike Aro210.2.1) Aro210.2.2 hi211 ha212 (g := (mkF m 148 #[.val (.int p0), .val (.long q1), .second, .val (.long q2), .second, .val (.long q3), .second, .val (.long q4), .second, .val (.int 5), .val (.ref bn1), .val (.ref bn182), .unset, .unset] [(.int 3), (.ref bn1), (.int 3), (.ref bn182)])) rfl rfl (hb hby at_148) _ ?_
      show Steps p.tables e below (To207.setTop (mkF m 149 #[.val (.int p0), .val (.long q1), .second, .val (.long q2), .second, .val (.long q3), .second, .val (.long q4), .second, .val (.int 5), .val (.ref bn1), .val (.ref bn182), .unset, .unset] [(.double (own_v0_2 q2)), (.int 3), (.ref bn182)])) _
      refine sto215 _ ?_
      refine XS.iload Xo215.here hx rfl (hb hby at_150) rfl ?_
      refine XS.iconst Xo215.here hx rfl (hb hby at_152) ?_
      refine XS.icmpNo Xo215.here hx rfl (hb hby at_153) rfl (XT.ii_le_f (by decide : (4 : Int32) < (5 : Int32))) ?_
      refine XS.aload Xo215.here hx rfl (hb hby at_156) rfl rfl ?_
      refine XS.iconst Xo215.here hx rfl (hb hby at_158) ?_
      refine XS.aload Xo215.here hx rfl (hb hby at_159) rfl rfl ?_
      refine XS.iconst Xo215.here hx rfl (hb hby at_161) ?_
      refine Xo215.daload hx (j := (4 : Int32)) (v := (.double (FP.i2d q3.toInt32))) (by rw [eo215]; exact Aro218.1) (State.isArrayOf_alike hZ.alike Aro218.2.1) Aro218.2.2 hi219 ha220 (g := (mkF m 162 #[.val (.int p0), .val (.long q1), .second, .val (.long q2), .second, .val (.long q3), .second, .val (.long q4), .second, .val (.int 5), .val (.ref bn1), .val (.ref bn182), .unset, .unset] [(.int 4), (.ref bn1), (.int 4), (.ref bn182)])) rfl rfl (hb hby at_162) _ ?_
      show Steps p.tables e below (To215.setTop (mkF m 163 #[.val (.int p0), .val (.long q1), .second, .val (.long q2), .second, .val (.long q3), .second, .val (.long q4), .second, .val (.int 5), .val (.ref bn1), .val (.ref bn182), .unset, .unset] [(.double (FP.i2d q3.toInt32)), (.int 4), (.ref bn182)])) _
      refine sto223 _ ?_
      refine XS.iload Xo223.here hx rfl (hb hby at_164) rfl ?_
      refine XS.iconst Xo223.here hx rfl (hb hby at_166) ?_
      refine XS.icmpYes Xo223.here hx rfl (pc0 := 167) (pc' := 178) rfl (hb hby at_167) rfl (XT.ii_le_t (by decide : ¬ ((5 : Int32) < (5 : Int32)))) (by decide) (by decide) ?_
      refine XS.iload Xo223.here hx rfl (hb hby at_178) rfl ?_
      refine XS.bipush Xo223.here hx rfl (hb hby at_180) ?_
      refine XS.icmpYes Xo223.here hx rfl (pc0 := 182) (pc' := 195) rfl (hb hby at_182) rfl (XT.ii_le_t (by decide : ¬ ((6 : Int32) < (5 : Int32)))) (by decide) (by decide) ?_
      refine XS.iload Xo223.here hx rfl (hb hby at_195) rfl ?_
      refine XS.bipush Xo223.here hx rfl (hb hby at_197) ?_
      refine XS.icmpYes Xo223.here hx rfl (pc0 := 199) (pc' := 212) rfl (hb hby at_199) rfl (XT.ii_le_t (by decide : ¬ ((7 : Int32) < (5 : Int32)))) (by decide) (by decide) ?_
      refine XS.aload Xo223.here hx rfl (hb hby at_212) rfl rfl ?_
      refine stk225 _ ?_
      show Steps p.tables e below (Tk225.setTop (mkF m 217 #[.val (.int p0), .val (.long q1), .second, .val (.long q2), .second, .val (.long q3), .second, .val (.long q4), .second, .val (.int 5), .val (.ref bn1), .val (.ref bn182), .unset, .unset] [(.ref bk225_0)])) _
      refine XS.astore Xk225.here hx rfl (hb hby at_217) rfl rfl (l' := #[.val (.int p0), .val (.long q1), .second, .val (.long q2), .second, .val (.long q3), .second, .val (.long q4), .second, .val (.int 5), .val (.ref bn1), .val (.ref bn182), .val (.ref bk225_0), .unset]) rfl ?_
      refine XS.aload Xk225.here hx rfl (hb hby at_219) rfl rfl ?_
      refine Xk225.arraylength hx Aro227.1 (State.isArrayOf_alike hZ.alike Aro227.2.1) (g := (mkF m 221 #[.val (.int p0), .val (.long q1), .second, .val (.long q2), .second, .val (.long q3), .second, .val (.long q4), .second, .val (.int 5), .val (.ref bn1), .val (.ref bn182), .val (.ref bk225_0), .unset] [(.ref bk225_0)])) rfl rfl (hb hby at_221) _ ?_
      rw [len_of So227 No227]
      show Steps p.tables e below (Tk225.setTop (mkF m 222 #[.val (.int p0), .val (.long q1), .second, .val (.long q2), .second, .val (.long q3), .second, .val (.long q4), .second, .val (.int 5), .val (.ref bn1), .val (.ref bn182), .val (.ref bk225_0), .unset] [(.int 3)])) _
      refine XS.iload Xk225.here hx rfl (hb hby at_222) rfl ?_
      refine XS.iconst Xk225.here hx rfl (hb hby at_224) ?_
      refine XS.idiv Xk225.here hx rfl (hb hby at_225) rfl (by decide) ?_
      show Steps p.tables e below (Tk225.setTop (mkF m 226 #[.val (.int p0), .val (.long q1), .second, .val (.long q2), .second, .val (.long q3), .second, .val (.long q4), .second, .val (.int 5), .val (.ref bn1), .val (.ref bn182), .val (.ref bk225_0), .unset] [(.int 2), (.int 3)])) _
      refine XS.iconst Xk225.here hx rfl (hb hby at_226) ?_
      refine XS.iadd Xk225.here hx rfl (hb hby at_227) rfl ?_
      refine XS.icmpYes Xk225.here hx rfl (pc0 := 228) (pc' := 233) rfl (hb hby at_228) rfl (XT.ii_eq_t (by decide : (3 : Int32) = (3 : Int32))) (by decide) (by decide) ?_
      refine XS.aload Xk225.here hx rfl (hb hby at_233) rfl rfl ?_
      refine XS.iconst Xk225.here hx rfl (hb hby at_235) ?_
      refine Xk225.daload hx (j := (0 : Int32)) (v := (.double (own_vh5_0 (FP.i2d q1.toInt32) (own_v0_1 q1)))) Aro227.1 (State.isArrayOf_alike hZ.alike Aro227.2.1) Aro227.2.2 hi228 ha229 (g := (mkF m 236 #[.val (.int p0), .val (.long q1), .second, .val (.long q2), .second, .val (.long q3), .second, .val (.long q4), .second, .val (.int 5), .val (.ref bn1), .val (.ref bn182), .val (.ref bk225_0), .unset] [(.int 0), (.ref bk225_0)])) rfl rfl (hb hby at_236) _ ?_
      show Steps p.tables e below (Tk225.setTop (mkF m 237 #[.val (.int p0), .val (.long q1), .second, .val (.long q2), .second, .val (.long q3), .second, .val (.long q4), .second, .val (.int 5), .val (.ref bn1), .val (.ref bn182), .val (.ref bk225_0), .unset] [(.double (own_vh5_0 (FP.i2d q1.toInt32) (own_v0_1 q1)))])) _
      refine XS.aload Xk225.here hx rfl (hb hby at_237) rfl rfl ?_
      refine XS.iload Xk225.here hx rfl (hb hby at_239) rfl ?_
      refine XS.iconst Xk225.here hx rfl (hb hby at_241) ?_
      refine stk230 _ ?_
      show Steps p.tables e below (Tk230.setTop (mkF m 245 #[.val (.int p0), .val (.long q1), .second, .val (.long q2), .second, .val (.long q3), .second, .val (.long q4), .second, .val (.int 5), .val (.ref bn1), .val (.ref bn182), .val (.ref bk225_0), .unset] [(.double (own_rex02_0 (FP.i2d q1.toInt32) (own_v0_1 q1))), (.double (own_vh5_0 (FP.i2d q1.toInt32) (own_v0_1 q1)))])) _
      refine XS.dcmpS Xk230.here hx rfl (hb hby at_245) rfl rfl ?_
      refine XS.ifNo Xk230.here hx rfl (hb hby at_246) rfl (XT.i0_ne_f (hc246_6 hs35)) ?_
      refine XS.iconst Xk230.here hx rfl (hb hby at_249) ?_
      refine XS.goto Xk230.here hx rfl (pc0 := 250) (pc' := 254) rfl (hb hby at_250) (by decide) (by decide) ?_
      refine XS.istore Xk230.here hx rfl (hb hby at_254) rfl (l' := #[.val (.int p0), .val (.long q1), .second, .val (.long q2), .second, .val (.long q3), .second, .val (.long q4), .second, .val (.int 5), .val (.ref bn1), .val (.ref bn182), .val (.ref bk225_0), .val (.int 1)]) rfl ?_
      refine XS.aload Xk230.here hx rfl (hb hby at_256) rfl rfl ?_
      refine Xk230.arraylength hx (by rw [ek230]; exact Aro227.1) (State.isArrayOf_alike hZ.alike Aro227.2.1) (g := (mkF m 258 #[.val (.int p0), .val (.long q1), .second, .val (.long q2), .second, .val (.long q3), .second, .val (.long q4), .second, .val (.int 5), .val (.ref bn1), .val (.ref bn182), .val (.ref bk225_0), .val (.int 1)] [(.ref bk225_0)])) rfl rfl (hb hby at_258) _ ?_
      rw [len_of So227 No227]
      show Steps p.tables e below (Tk230.setTop (mkF m 259 #[.val (.int p0), .val (.long q1), .second, .val (.long q2), .second, .val (.long q3), .second, .val (.long q4), .second, .val (.int 5), .val (.ref bn1), .val (.ref bn182), .val (.ref bk225_0), .val (.int 1)] [(.int 3)])) _
      refine XS.iconst Xk230.here hx rfl (hb hby at_259) ?_
      refine XS.icmpNo Xk230.here hx rfl (hb hby at_260) rfl (XT.ii_le_f (by decide : (1 : Int32) < (3 : Int32))) ?_
      refine XS.iload Xk230.here hx rfl (hb hby at_263) rfl ?_
      refine XS.ifNo Xk230.here hx rfl (hb hby at_265) rfl (XT.i0_eq_f (by decide : ¬ ((1 : Int32) = (0 : Int32)))) ?_
      refine XS.aload Xk230.here hx rfl (hb hby at_268) rfl rfl ?_
      refine XS.iconst Xk230.here hx rfl (hb hby at_270) ?_
      refine Xk230.daload hx (j := (1 : Int32)) (v := (.double (own_vh5_3 (own_v0_1 q1) (FP.i2d q2.toInt32) (own_v0_2 q2)))) (by rw [ek230]; exact Aro227.1) (State.isArrayOf_alike hZ.alike Aro227.2.1) Aro227.2.2 hi232 ha233 (g := (mkF m 271 #[.val (.int p0), .val (.long q1), .second, .val (.long q2), .second, .val (.long q3), .second, .val (.long q4), .second, .val (.int 5), .val (.ref bn1), .val (.ref bn182), .val (.ref bk225_0), .val (.int 1)] [(.int 1), (.ref bk225_0)])) rfl rfl (hb hby at_271) _ ?_
      show Steps p.tables e below (Tk230.setTop (mkF m 272 #[.val (.int p0), .val (.long q1), .second, .val (.long q2), .second, .val (.long q3), .second, .val (.long q4), .second, .val (.int 5), .val (.ref bn1), .val (.ref bn182), .val (.ref bk225_0), .val (.int 1)] [(.double (own_vh5_3 (own_v0_1 q1) (FP.i2d q2.toInt32) (own_v0_2 q2)))])) _
      refine XS.aload Xk230.here hx rfl (hb hby at_272) rfl rfl ?_
      refine XS.iload Xk230.here hx rfl (hb hby at_274) rfl ?_
      refine XS.iconst Xk230.here hx rfl (hb hby at_276) ?_
      refine stk234 _ ?_
      show Steps p.tables e below (Tk234.setTop (mkF m 280 #[.val (.int p0), .val (.long q1), .second, .val (.long q2), .second, .val (.long q3), .second, .val (.long q4), .second, .val (.int 5), .val (.ref bn1), .val (.ref bn182), .val (.ref bk225_0), .val (.int 1)] [(.double (own_rex14_0 (own_v0_1 q1) (FP.i2d q2.toInt32) (own_v0_2 q2))), (.double (own_vh5_3 (own_v0_1 q1) (FP.i2d q2.toInt32) (own_v0_2 q2)))])) _
      refine XS.dcmpS Xk234.here hx rfl (hb hby at_280) rfl rfl ?_
      refine XS.ifNo Xk234.here hx rfl (hb hby at_281) rfl (XT.i0_ne_f (hc281_4 hs35)) ?_
      refine XS.iconst Xk234.here hx rfl (hb hby at_284) ?_
      refine XS.goto Xk234.here hx rfl (pc0 := 285) (pc' := 289) rfl (hb hby at_285) (by decide) (by decide) ?_
      refine XS.istore Xk234.here hx rfl (hb hby at_289) rfl (l' := #[.val (.int p0), .val (.long q1), .second, .val (.long q2), .second, .val (.long q3), .second, .val (.long q4), .second, .val (.int 5), .val (.ref bn1), .val (.ref bn182), .val (.ref bk225_0), .val (.int 1)]) rfl ?_
      refine XS.aload Xk234.here hx rfl (hb hby at_291) rfl rfl ?_
      refine Xk234.arraylength hx (by rw [ek234]; exact Aro227.1) (State.isArrayOf_alike hZ.alike Aro227.2.1) (g := (mkF m 293 #[.val (.int p0), .val (.long q1), .second, .val (.long q2), .second, .val (.long q3), .second, .val (.long q4), .second, .val (.int 5), .val (.ref bn1), .val (.ref bn182), .val (.ref bk225_0), .val (.int 1)] [(.ref bk225_0)])) rfl rfl (hb hby at_293) _ ?_
      rw [len_of So227 No227]
      show Steps p.tables e below (Tk234.setTop (mkF m 294 #[.val (.int p0), .val (.long q1), .second, .val (.long q2), .second, .val (.long q3), .second, .val (.long q4), .second, .val (.int 5), .val (.ref bn1), .val (.ref bn182), .val (.ref bk225_0), .val (.int 1)] [(.int 3)])) _
      refine XS.iconst Xk234.here hx rfl (hb hby at_294) ?_
      refine XS.icmpNo Xk234.here hx rfl (hb hby at_295) rfl (XT.ii_le_f (by decide : (2 : Int32) < (3 : Int32))) ?_
      refine XS.iload Xk234.here hx rfl (hb hby at_298) rfl ?_
      refine XS.ifNo Xk234.here hx rfl (hb hby at_300) rfl (XT.i0_eq_f (by decide : ¬ ((1 : Int32) = (0 : Int32)))) ?_
      refine XS.aload Xk234.here hx rfl (hb hby at_303) rfl rfl ?_
      refine XS.iconst Xk234.here hx rfl (hb hby at_305) ?_
      refine Xk234.daload hx (j := (2 : Int32)) (v := (.double (own_vh5_5 (own_v0_2 q2) (FP.i2d q3.toInt32)))) (by rw [ek234]; exact Aro227.1) (State.isArrayOf_alike hZ.alike Aro227.2.1) Aro227.2.2 hi235 ha236 (g := (mkF m 306 #[.val (.int p0), .val (.long q1), .second, .val (.long q2), .second, .val (.long q3), .second, .val (.long q4), .second, .val (.int 5), .val (.ref bn1), .val (.ref bn182), .val (.ref bk225_0), .val (.int 1)] [(.int 2), (.ref bk225_0)])) rfl rfl (hb hby at_306) _ ?_
      show Steps p.tables e below (Tk234.setTop (mkF m 307 #[.val (.int p0), .val (.long q1), .second, .val (.long q2), .second, .val (.long q3), .second, .val (.long q4), .second, .val (.int 5), .val (.ref bn1), .val (.ref bn182), .val (.ref bk225_0), .val (.int 1)] [(.double (own_vh5_5 (own_v0_2 q2) (FP.i2d q3.toInt32)))])) _
      refine XS.aload Xk234.here hx rfl (hb hby at_307) rfl rfl ?_
      refine XS.iload Xk234.here hx rfl (hb hby at_309) rfl ?_
      refine XS.iconst Xk234.here hx rfl (hb hby at_311) ?_
      refine stk237 _ ?_
      show Steps p.tables e below (Tk237.setTop (mkF m 315 #[.val (.int p0), .val (.long q1), .second, .val (.long q2), .second, .val (.long q3), .second, .val (.long q4), .second, .val (.int 5), .val (.ref bn1), .val (.ref bn182), .val (.ref bk225_0), .val (.int 1)] [(.double (own_rex25_0 (own_v0_2 q2) (FP.i2d q3.toInt32))), (.double (own_vh5_5 (own_v0_2 q2) (FP.i2d q3.toInt32)))])) _
      refine XS.dcmpS Xk237.here hx rfl (hb hby at_315) rfl rfl ?_
      refine XS.ifNo Xk237.here hx rfl (hb hby at_316) rfl (XT.i0_ne_f (hc316_2 hs35)) ?_
      refine XS.iconst Xk237.here hx rfl (hb hby at_319) ?_
      refine XS.goto Xk237.here hx rfl (pc0 := 320) (pc' := 324) rfl (hb hby at_320) (by decide) (by decide) ?_
      refine XS.istore Xk237.here hx rfl (hb hby at_324) rfl (l' := #[.val (.int p0), .val (.long q1), .second, .val (.long q2), .second, .val (.long q3), .second, .val (.long q4), .second, .val (.int 5), .val (.ref bn1), .val (.ref bn182), .val (.ref bk225_0), .val (.int 1)]) rfl ?_
      refine XS.aload Xk237.here hx rfl (hb hby at_326) rfl rfl ?_
      refine Xk237.arraylength hx (by rw [ek237]; exact Aro227.1) (State.isArrayOf_alike hZ.alike Aro227.2.1) (g := (mkF m 328 #[.val (.int p0), .val (.long q1), .second, .val (.long q2), .second, .val (.long q3), .second, .val (.long q4), .second, .val (.int 5), .val (.ref bn1), .val (.ref bn182), .val (.ref bk225_0), .val (.int 1)] [(.ref bk225_0)])) rfl rfl (hb hby at_328) _ ?_
      rw [len_of So227 No227]
      show Steps p.tables e below (Tk237.setTop (mkF m 329 #[.val (.int p0), .val (.long q1), .second, .val (.long q2), .second, .val (.long q3), .second, .val (.long q4), .second, .val (.int 5), .val (.ref bn1), .val (.ref bn182), .val (.ref bk225_0), .val (.int 1)] [(.int 3)])) _
      refine XS.iconst Xk237.here hx rfl (hb hby at_329) ?_
      refine XS.icmpYes Xk237.here hx rfl (pc0 := 330) (pc' := 361) rfl (hb hby at_330) rfl (XT.ii_le_t (by decide : ¬ ((3 : Int32) < (3 : Int32)))) (by decide) (by decide) ?_
      refine XS.aload Xk237.here hx rfl (hb hby at_361) rfl rfl ?_
      refine Xk237.arraylength hx (by rw [ek237]; exact Aro227.1) (State.isArrayOf_alike hZ.alike Aro227.2.1) (g := (mkF m 363 #[.val (.int p0), .val (.long q1), .second, .val (.long q2), .second, .val (.long q3), .second, .val (.long q4), .second, .val (.int 5), .val (.ref bn1), .val (.ref bn182), .val (.ref bk225_0), .val (.int 1)] [(.ref bk225_0)])) rfl rfl (hb hby at_363) _ ?_
      rw [len_of So227 No227]
      show Steps p.tables e below (Tk237.setTop (mkF m 364 #[.val (.int p0), .val (.long q1), .second, .val (.long q2), .second, .val (.long q3), .second, .val (.long q4), .second, .val (.int 5), .val (.ref bn1), .val (.ref bn182), .val (.ref bk225_0), .val (.int 1)] [(.int 3)])) _
      refine XS.iconst Xk237.here hx rfl (hb hby at_364) ?_
      refine XS.icmpYes Xk237.here hx rfl (pc0 := 365) (pc' := 396) rfl (hb hby at_365) rfl (XT.ii_le_t (by decide : ¬ ((4 : Int32) < (3 : Int32)))) (by decide) (by decide) ?_
      refine XS.iload Xk237.here hx rfl (hb hby at_396) rfl ?_
      show Steps p.tables e below (Tk237.setTop (mkF m 398 #[.val (.int p0), .val (.long q1), .second, .val (.long q2), .second, .val (.long q3), .second, .val (.long q4), .second, .val (.int 5), .val (.ref bn1), .val (.ref bn182), .val (.ref bk225_0), .val (.int 1)] [(.int 1)])) _
      exact retN Xk237 hx (t := .boolean) Bd.returns (by simp) (hb hby at_398) hr
    · show own_Q0 Z p0 q1 q2 q3 q4 h0 n0 _ Tk237.heap _
      rw [ek237]
      exact ⟨rfl, Nk237⟩
  · have K238 : ∀ t, Steps p.tables e below (To33.setTop (mkF m 89 #[.val (.int p0), .val (.long q1), .second, .val (.long q2), .second, .val (.long q3), .second, .val (.long q4), .second, .val (.int 6), .val (.ref bn1), .unset, .unset, .unset] [])) t → Steps p.tables e below (To33.setTop (mkF m 89 #[.val (.int p0), .val (.long q1), .second, .val (.long q2), .second, .val (.long q3), .second, .val (.long q4), .second, .val (.int (own_v0_0 p0)), .val (.ref bn1), .unset, .unset, .unset] [])) t := by intro t kt; rw [hs35]; exact kt
    obtain ⟨Tn239, hn239, kn239, Xn239, en239, En239, An239, stn239⟩ := newP Xo33 hx hZ (own_W hw 1 rfl) eo33 (g := (mkF m 91 #[.val (.int p0), .val (.long q1), .second, .val (.long q2), .second, .val (.long q3), .second, .val (.long q4), .second, .val (.int 6), .val (.ref bn1), .unset, .unset, .unset] [(.int 6)])) rfl (hb hby at_91) rfl (by decide) (cap := 6) (by decide) (by decide) (by decide) (by decide)
    obtain ⟨bn239, gn239⟩ : ∃ z, z = ho33.size := ⟨_, rfl⟩
    rw [← gn239] at An239 stn239
    have g_bn239 : n0 ≤ bn239 := Nat.le_trans (Nat.le_trans Z0 sz34) (Nat.le_of_eq gn239.symm)
    have sz_bn239 : h0.size ≤ bn239 := Nat.le_trans sz34 (Nat.le_of_eq gn239.symm)
    have sz240 : h0.size ≤ hn239.size := Nat.le_trans sz34 En239.1
    have V_bn239 : Arv Z hn239 bn239 kn239 .double (6 : Int32) [(.double 0), (.double 0), (.double 0), (.double 0), (.double 0), (.double 0)] (.double 0) := (Arv.new An239 (by decide)).pad (pad_rep [] (.double 0) 6)
    have F241 := (Vwo33.ext En239)
    obtain ⟨clo242, Aro242, qo242, So242, No242, Ho242, Go242⟩ := id F241
    have hi243 := inb_of (j := (0 : Int32)) So242 ⟨by decide, by decide⟩
    have ha244 : _ = some (Value.double (FP.i2d q1.toInt32)) := Ho242.at hi243 rfl
    obtain ⟨clo245, Aro245, qo245, So245, No245, Ho245, Go245⟩ := id V_bn239
    have hi246 := inb_of (j := (0 : Int32)) So245 ⟨by decide, by decide⟩
    obtain ⟨To247, ho247, Xo247, eo247, Wo247, sto247⟩ := stD Xn239 hx hZ en239 Aro245 (j := (0 : Int32)) hi246 (g := (mkF m 107 #[.val (.int p0), .val (.long q1), .second, .val (.long q2), .second, .val (.long q3), .second, .val (.long q4), .second, .val (.int 6), .val (.ref bn1), .val (.ref bn239), .unset, .unset] [(.double (FP.i2d q1.toInt32)), (.int 0), (.ref bn239)])) rfl rfl (hb hby at_107)
    have Vwo247 : Arv Z ho247 bn239 kn239 .double (6 : Int32) [(.double (FP.i2d q1.toInt32)), (.double 0), (.double 0), (.double 0), (.double 0), (.double 0)] (.double 0) := Arv.set Aro245 qo245 So245 No245 Ho245 Go245 rfl Wo247 0 rfl (Nat.le_of_ble_eq_true rfl)
    have sz248 : h0.size ≤ ho247.size := Nat.le_trans sz240 (Nat.le_of_eq Wo247.size.symm)
    have Nfo247 := Fr.snoc Xo247 Nfo33 g_bn239
    have ne249 : bn1 ≠ bn239 := (Nat.ne_of_lt (Nat.lt_of_lt_of_le Vwo33.lt (Nat.le_of_eq gn239.symm)))
    have F250 := (F241.other Wo247 ne249)
    obtain ⟨clo251, Aro251, qo251, So251, No251, Ho251, Go251⟩ := id F250
    have hi252 := inb_of (j := (1 : Int32)) So251 ⟨by decide, by decide⟩
    have ha253 : _ = some (Value.double (own_v0_1 q1)) := Ho251.at hi252 rfl
    obtain ⟨clo254, Aro254, qo254, So254, No254, Ho254, Go254⟩ := id Vwo247
    have hi255 := inb_of (j := (1 : Int32)) So254 ⟨by decide, by decide⟩
    obtain ⟨To256, ho256, Xo256, eo256, Wo256, sto256⟩ := stD Xo247 hx hZ eo247 Aro254 (j := (1 : Int32)) hi255 (g := (mkF m 121 #[.val (.int p0), .val (.long q1), .second, .val (.long q2), .second, .val (.long q3), .second, .val (.long q4), .second, .val (.int 6), .val (.ref bn1), .val (.ref bn239), .unset, .unset] [(.double (own_v0_1 q1)), (.int 1), (.ref bn239)])) rfl rfl (hb hby at_121)
    have Vwo256 : Arv Z ho256 bn239 kn239 .double (6 : Int32) [(.double (FP.i2d q1.toInt32)), (.double (own_v0_1 q1)), (.double 0), (.double 0), (.double 0), (.double 0)] (.double 0) := Arv.set Aro254 qo254 So254 No254 Ho254 Go254 rfl Wo256 1 rfl (Nat.le_of_ble_eq_true rfl)
    have sz257 : h0.size ≤ ho256.size := Nat.le_trans sz248 (Nat.le_of_eq Wo256.size.symm)
    have Nfo256 := Fr.snoc Xo256 Nfo247 g_bn239
    have F258 := (F250.other Wo256 ne249)
    obtain ⟨clo259, Aro259, qo259, So259, No259, Ho259, Go259⟩ := id F258
    have hi260 := inb_of (j := (2 : Int32)) So259 ⟨by decide, by decide⟩
    have ha261 : _ = some (Value.double (FP.i2d q2.toInt32)) := Ho259.at hi260 rfl
    obtain ⟨clo262, Aro262, qo262, So262, No262, Ho262, Go262⟩ := id Vwo256
    have hi263 := inb_of (j := (2 : Int32)) So262 ⟨by decide, by decide⟩
    obtain ⟨To264, ho264, Xo264, eo264, Wo264, sto264⟩ := stD Xo256 hx hZ eo256 Aro262 (j := (2 : Int32)) hi263 (g := (mkF m 135 #[.val (.int p0), .val (.long q1), .second, .val (.long q2), .second, .val (.long q3), .second, .val (.long q4), .second, .val (.int 6), .val (.ref bn1), .val (.ref bn239), .unset, .unset] [(.double (FP.i2d q2.toInt32)), (.int 2), (.ref bn239)])) rfl rfl (hb hby at_135)
    have Vwo264 : Arv Z ho264 bn239 kn239 .double (6 : Int32) [(.double (FP.i2d q1.toInt32)), (.double (own_v0_1 q1)), (.double (FP.i2d q2.toInt32)), (.double 0), (.double 0), (.double 0)] (.double 0) := Arv.set Aro262 qo262 So262 No262 Ho262 Go262 rfl Wo264 2 rfl (Nat.le_of_ble_eq_true rfl)
    have sz265 : h0.size ≤ ho264.size := Nat.le_trans sz257 (Nat.le_of_eq Wo264.size.symm)
    have Nfo264 := Fr.snoc Xo264 Nfo256 g_bn239
    have F266 := (F258.other Wo264 ne249)
    obtain ⟨clo267, Aro267, qo267, So267, No267, Ho267, Go267⟩ := id F266
    have hi268 := inb_of (j := (3 : Int32)) So267 ⟨by decide, by decide⟩
    have ha269 : _ = some (Value.double (own_v0_2 q2)) := Ho267.at hi268 rfl
    obtain ⟨clo270, Aro270, qo270, So270, No270, Ho270, Go270⟩ := id Vwo264
    have hi271 := inb_of (j := (3 : Int32)) So270 ⟨by decide, by decide⟩
    obtain ⟨To272, ho272, Xo272, eo272, Wo272, sto272⟩ := stD Xo264 hx hZ eo264 Aro270 (j := (3 : Int32)) hi271 (g := (mkF m 149 #[.val (.int p0), .val (.long q1), .second, .val (.long q2), .second, .val (.long q3), .second, .val (.long q4), .second, .val (.int 6), .val (.ref bn1), .val (.ref bn239), .unset, .unset] [(.double (own_v0_2 q2)), (.int 3), (.ref bn239)])) rfl rfl (hb hby at_149)
    have Vwo272 : Arv Z ho272 bn239 kn239 .double (6 : Int32) [(.double (FP.i2d q1.toInt32)), (.double (own_v0_1 q1)), (.double (FP.i2d q2.toInt32)), (.double (own_v0_2 q2)), (.double 0), (.double 0)] (.double 0) := Arv.set Aro270 qo270 So270 No270 Ho270 Go270 rfl Wo272 3 rfl (Nat.le_of_ble_eq_true rfl)
    have sz273 : h0.size ≤ ho272.size := Nat.le_trans sz265 (Nat.le_of_eq Wo272.size.symm)
    have Nfo272 := Fr.snoc Xo272 Nfo264 g_bn239
    have F274 := (F266.other Wo272 ne249)
    obtain ⟨clo275, Aro275, qo275, So275, No275, Ho275, Go275⟩ := id F274
    have hi276 := inb_of (j := (4 : Int32)) So275 ⟨by decide, by decide⟩
    have ha277 : _ = some (Value.double (FP.i2d q3.toInt32)) := Ho275.at hi276 rfl
    obtain ⟨clo278, Aro278, qo278, So278, No278, Ho278, Go278⟩ := id Vwo272
    have hi279 := inb_of (j := (4 : Int32)) So278 ⟨by decide, by decide⟩
    obtain ⟨To280, ho280, Xo280, eo280, Wo280, sto280⟩ := stD Xo272 hx hZ eo272 Aro278 (j := (4 : Int32)) hi279 (g := (mkF m 163 #[.val (.int p0), .val (.long q1), .second, .val (.long q2), .second, .val (.long q3), .second, .val (.long q4), .second, .val (.int 6), .val (.ref bn1), .val (.ref bn239), .unset, .unset] [(.double (FP.i2d q3.toInt32)), (.int 4), (.ref bn239)])) rfl rfl (hb hby at_163)
    have Vwo280 : Arv Z ho280 bn239 kn239 .double (6 : Int32) [(.double (FP.i2d q1.toInt32)), (.double (own_v0_1 q1)), (.double (FP.i2d q2.toInt32)), (.double (own_v0_2 q2)), (.double (FP.i2d q3.toInt32)), (.double 0)] (.double 0) := Arv.set Aro278 qo278 So278 No278 Ho278 Go278 rfl Wo280 4 rfl (Nat.le_of_ble_eq_true rfl)
    have sz281 : h0.size ≤ ho280.size := Nat.le_trans sz273 (Nat.le_of_eq Wo280.size.symm)
    have Nfo280 := Fr.snoc Xo280 Nfo272 g_bn239
    have F282 := (F274.other Wo280 ne249)
    obtain ⟨clo283, Aro283, qo283, So283, No283, Ho283, Go283⟩ := id F282
    have hi284 := inb_of (j := (5 : Int32)) So283 ⟨by decide, by decide⟩
    have ha285 : _ = some (Value.double (own_v0_3 q3)) := Ho283.at hi284 rfl
    obtain ⟨clo286, Aro286, qo286, So286, No286, Ho286, Go286⟩ := id Vwo280
    have hi287 := inb_of (j := (5 : Int32)) So286 ⟨by decide, by decide⟩
    obtain ⟨To288, ho288, Xo288, eo288, Wo288, sto288⟩ := stD Xo280 hx hZ eo280 Aro286 (j := (5 : Int32)) hi287 (g := (mkF m 177 #[.val (.int p0), .val (.long q1), .second, .val (.long q2), .second, .val (.long q3), .second, .val (.long q4), .second, .val (.int 6), .val (.ref bn1), .val (.ref bn239), .unset, .unset] [(.double (own_v0_3 q3)), (.int 5), (.ref bn239)])) rfl rfl (hb hby at_177)
    have Vwo288 : Arv Z ho288 bn239 kn239 .double (6 : Int32) [(.double (FP.i2d q1.toInt32)), (.double (own_v0_1 q1)), (.double (FP.i2d q2.toInt32)), (.double (own_v0_2 q2)), (.double (FP.i2d q3.toInt32)), (.double (own_v0_3 q3))] (.double 0) := Arv.set Aro286 qo286 So286 No286 Ho286 Go286 rfl Wo288 5 rfl (Nat.le_of_ble_eq_true rfl)
    have sz289 : h0.size ≤ ho288.size := Nat.le_trans sz281 (Nat.le_of_eq Wo288.size.symm)
    have Nfo288 := Fr.snoc Xo288 Nfo280 g_bn239
    obtain ⟨_, _, ⟨Tk290, Lk290, kk290, nk290⟩, -, Xk290, ⟨Lck290, hQk290, lk290, yk290, zk290⟩, stk290⟩ := Jvm.LawKit.callS Xo288 hx (y := (⟨"com/example/surepath/surepath/TravelTime$Lattices", "halved", "([D)[D"⟩ : MethodName)) hown (mvT hZ (own_W hw 2 rfl)) (mvT hZ (own_W hw 3 rfl)) (mvT hZ (own_W hw 4 rfl)) (mvT hZ (own_W hw 5 rfl)) (by decide) (backOf (W := 0) (own_rmh6 l Z a0 hw [] bn239 kn239 (FP.i2d q1.toInt32) (own_v0_1 q1) (FP.i2d q2.toInt32) (own_v0_2 q2) (FP.i2d q3.toInt32) (own_v0_3 q3) ho288 n0 (Nat.le_trans Z0 sz289) Vwo288 (c214_nn32_6 hs35) (c214_nn49_5 hs35) (c214_nn50_5 hs35) (c214_nn67_5 hs35) (c214_nn32_2_5 hs35) (c214_nn49_2_4 hs35) (c214_nn50_2_4 hs35) (c214_nn67_2_4 hs35) (c214_nn32_3_3 hs35) (c214_nn49_3_2 hs35) (c214_nn50_3_2 hs35) (c214_nn67_3_2 hs35)) hZ (own_W hw 5 rfl) (own_W hw 4 rfl) (by decide) (by decide)) (g := (mkF m 214 #[.val (.int p0), .val (.long q1), .second, .val (.long q2), .second, .val (.long q3), .second, .val (.long q4), .second, .val (.int 6), .val (.ref bn1), .val (.ref bn239), .unset, .unset] [(.ref bn239)])) rfl (by rw [hml]; rfl) (argsL := [(.ref bn239)]) (rest := []) (lenOf own_pd1 rfl) rfl (by show 2 * 0 + _ ≤ _; exact Nat.le_of_eq rfl) (hb hby at_214) (fun _ _ => ⟨rfl, eo288, (by decide : 2 + 1 ≤ _), (by decide : 14 + 4 ≤ _)⟩)
    dsimp only [Pt.U, Pt.locs, Pt.cells, Pt.slots] at Xk290 lk290 yk290 zk290 stk290 hQk290
    replace lk290 := lk290.symm; replace yk290 := yk290.symm; replace zk290 := zk290.symm; subst lk290 yk290 zk290
    obtain ⟨bk290_0, kk290_1, rfl, Nk290q, Kk290, lebk290_0, Qk290_0⟩ := hQk290
    have g_bk290_0 : n0 ≤ bk290_0 := Nat.le_trans (Nat.le_trans Z0 sz289) lebk290_0
    have sz_bk290_0 : h0.size ≤ bk290_0 := Nat.le_trans sz289 lebk290_0
    have sz291 : h0.size ≤ Tk290.heap.size := Nat.le_trans sz289 Kk290.1
    have Nk290 := Fr.app Nfo288 Nk290q
    obtain ⟨clo292, Aro292, qo292, So292, No292, Ho292, Go292⟩ := id Qk290_0
    have hi293 := inb_of (j := (0 : Int32)) So292 ⟨by decide, by decide⟩
    have ha294 : _ = some (Value.double (own_vh6_0 (FP.i2d q1.toInt32) (own_v0_1 q1))) := Ho292.at hi293 rfl
    have F296 := ((F282.other Wo288 ne249).keep Kk290 nin0)
    obtain ⟨_, _, ⟨Tk295, Lk295, kk295, nk295⟩, -, Xk295, ⟨Lck295, hQk295, lk295, yk295, zk295⟩, stk295⟩ := Jvm.LawKit.callS Xk290 hx (y := (⟨"com/example/surepath/surepath/LatticesHalvedPinLaw", "expect", "([DII)D"⟩ : MethodName)) hown (mvT hZ (own_W hw 6 rfl)) (mvT hZ (own_W hw 7 rfl)) (mvT hZ (own_W hw 8 rfl)) (mvT hZ (own_W hw 9 rfl)) (by decide) (backOf (W := 2) (own_rmex02 l Z a0 hw [] bn1 (6 : Int32) kn1 (FP.i2d q1.toInt32) (own_v0_1 q1) (FP.i2d q2.toInt32) (own_v0_2 q2) (FP.i2d q3.toInt32) (own_v0_3 q3) (FP.i2d q4.toInt32) (own_v0_4 q4) Tk290.heap n0 (Nat.le_trans Z0 sz291) F296 (c242_nn13_7 hs35) (by decide) (c242_nn22_7 hs35) (by decide) (c214_nn49_5 hs35) (c242_nn37_7 hs35)) hZ (own_W hw 9 rfl) (own_W hw 8 rfl) (by decide) (by decide)) (g := (mkF m 242 #[.val (.int p0), .val (.long q1), .second, .val (.long q2), .second, .val (.long q3), .second, .val (.long q4), .second, .val (.int 6), .val (.ref bn1), .val (.ref bn239), .val (.ref bk290_0), .unset] [(.int 0), (.int 6), (.ref bn1), (.double (own_vh6_0 (FP.i2d q1.toInt32) (own_v0_1 q1)))])) rfl (by rw [hml]; rfl) (argsL := [(.ref bn1), (.int 6), (.int 0)]) (rest := [(.double (own_vh6_0 (FP.i2d q1.toInt32) (own_v0_1 q1)))]) (lenOf own_pd0 rfl) rfl (by show 2 * 0 + _ ≤ _; exact Nat.le_of_eq rfl) (hb hby at_242) (fun _ _ => ⟨rfl, rfl, (by decide : 3 + 0 ≤ _), (by decide : 18 + 0 ≤ _)⟩)
    dsimp only [Pt.U, Pt.locs, Pt.cells, Pt.slots] at Xk295 lk295 yk295 zk295 stk295 hQk295
    replace lk295 := lk295.symm; replace yk295 := yk295.symm; replace zk295 := zk295.symm; subst lk295 yk295 zk295
    obtain ⟨rfl, Nk295q, ek295⟩ := hQk295
    have Nk295 := Fr.app Nk290 Nk295q
    have hi297 := inb_of (j := (1 : Int32)) So292 ⟨by decide, by decide⟩
    have ha298 : _ = some (Value.double (own_vh6_3 (own_v0_1 q1) (FP.i2d q2.toInt32) (own_v0_2 q2))) := Ho292.at hi297 rfl
    obtain ⟨_, _, ⟨Tk299, Lk299, kk299, nk299⟩, -, Xk299, ⟨Lck299, hQk299, lk299, yk299, zk299⟩, stk299⟩ := Jvm.LawKit.callS Xk295 hx (y := (⟨"com/example/surepath/surepath/LatticesHalvedPinLaw", "expect", "([DII)D"⟩ : MethodName)) hown (mvT hZ (own_W hw 6 rfl)) (mvT hZ (own_W hw 7 rfl)) (mvT hZ (own_W hw 8 rfl)) (mvT hZ (own_W hw 9 rfl)) (by decide) (backOf (W := 2) (own_rmex14 l Z a0 hw [] bn1 (6 : Int32) kn1 (FP.i2d q1.toInt32) (own_v0_1 q1) (FP.i2d q2.toInt32) (own_v0_2 q2) (FP.i2d q3.toInt32) (own_v0_3 q3) (FP.i2d q4.toInt32) (own_v0_4 q4) Tk290.heap n0 (Nat.le_trans Z0 sz291) F296 (by decide) (c214_nn49_5 hs35) (by decide) (c277_nn22_5 hs35) (by decide) (c214_nn49_2_4 hs35) (c277_nn37_5 hs35)) hZ (own_W hw 9 rfl) (own_W hw 8 rfl) (by decide) (by decide)) (g := (mkF m 277 #[.val (.int p0), .val (.long q1), .second, .val (.long q2), .second, .val (.long q3), .second, .val (.long q4), .second, .val (.int 6), .val (.ref bn1), .val (.ref bn239), .val (.ref bk290_0), .val (.int 1)] [(.int 1), (.int 6), (.ref bn1), (.double (own_vh6_3 (own_v0_1 q1) (FP.i2d q2.toInt32) (own_v0_2 q2)))])) rfl (by rw [hml]; rfl) (argsL := [(.ref bn1), (.int 6), (.int 1)]) (rest := [(.double (own_vh6_3 (own_v0_1 q1) (FP.i2d q2.toInt32) (own_v0_2 q2)))]) (lenOf own_pd0 rfl) rfl (by show 2 * 0 + _ ≤ _; exact Nat.le_of_eq rfl) (hb hby at_277) (fun _ _ => ⟨rfl, ek295, (by decide : 3 + 0 ≤ _), (by decide : 18 + 0 ≤ _)⟩)
    dsimp only [Pt.U, Pt.locs, Pt.cells, Pt.slots] at Xk299 lk299 yk299 zk299 stk299 hQk299
    replace lk299 := lk299.symm; replace yk299 := yk299.symm; replace zk299 := zk299.symm; subst lk299 yk299 zk299
    obtain ⟨rfl, Nk299q, ek299⟩ := hQk299
    have Nk299 := Fr.app Nk295 Nk299q
    have hi300 := inb_of (j := (2 : Int32)) So292 ⟨by decide, by decide⟩
    have ha301 : _ = some (Value.double (own_vh6_6 (own_v0_2 q2) (FP.i2d q3.toInt32) (own_v0_3 q3))) := Ho292.at hi300 rfl
    obtain ⟨_, _, ⟨Tk302, Lk302, kk302, nk302⟩, -, Xk302, ⟨Lck302, hQk302, lk302, yk302, zk302⟩, stk302⟩ := Jvm.LawKit.callS Xk299 hx (y := (⟨"com/example/surepath/surepath/LatticesHalvedPinLaw", "expect", "([DII)D"⟩ : MethodName)) hown (mvT hZ (own_W hw 6 rfl)) (mvT hZ (own_W hw 7 rfl)) (mvT hZ (own_W hw 8 rfl)) (mvT hZ (own_W hw 9 rfl)) (by decide) (backOf (W := 2) (own_rmex26 l Z a0 hw [] bn1 (6 : Int32) kn1 (FP.i2d q1.toInt32) (own_v0_1 q1) (FP.i2d q2.toInt32) (own_v0_2 q2) (FP.i2d q3.toInt32) (own_v0_3 q3) (FP.i2d q4.toInt32) (own_v0_4 q4) Tk290.heap n0 (Nat.le_trans Z0 sz291) F296 (by decide) (c214_nn49_2_4 hs35) (by decide) (c312_nn22_3 hs35) (by decide) (c214_nn49_3_2 hs35) (c312_nn37_3 hs35)) hZ (own_W hw 9 rfl) (own_W hw 8 rfl) (by decide) (by decide)) (g := (mkF m 312 #[.val (.int p0), .val (.long q1), .second, .val (.long q2), .second, .val (.long q3), .second, .val (.long q4), .second, .val (.int 6), .val (.ref bn1), .val (.ref bn239), .val (.ref bk290_0), .val (.int 1)] [(.int 2), (.int 6), (.ref bn1), (.double (own_vh6_6 (own_v0_2 q2) (FP.i2d q3.toInt32) (own_v0_3 q3)))])) rfl (by rw [hml]; rfl) (argsL := [(.ref bn1), (.int 6), (.int 2)]) (rest := [(.double (own_vh6_6 (own_v0_2 q2) (FP.i2d q3.toInt32) (own_v0_3 q3)))]) (lenOf own_pd0 rfl) rfl (by show 2 * 0 + _ ≤ _; exact Nat.le_of_eq rfl) (hb hby at_312) (fun _ _ => ⟨rfl, ek299, (by decide : 3 + 0 ≤ _), (by decide : 18 + 0 ≤ _)⟩)
    dsimp only [Pt.U, Pt.locs, Pt.cells, Pt.slots] at Xk302 lk302 yk302 zk302 stk302 hQk302
    replace lk302 := lk302.symm; replace yk302 := yk302.symm; replace zk302 := zk302.symm; subst lk302 yk302 zk302
    obtain ⟨rfl, Nk302q, ek302⟩ := hQk302
    have Nk302 := Fr.app Nk299 Nk302q
    have hi303 := inb_of (j := (3 : Int32)) So292 ⟨by decide, by decide⟩
    have ha304 : _ = some (Value.double (own_vh6_7 (own_v0_3 q3))) := Ho292.at hi303 rfl
    obtain ⟨_, _, ⟨Tk305, Lk305, kk305, nk305⟩, -, Xk305, ⟨Lck305, hQk305, lk305, yk305, zk305⟩, stk305⟩ := Jvm.LawKit.callS Xk302 hx (y := (⟨"com/example/surepath/surepath/LatticesHalvedPinLaw", "expect", "([DII)D"⟩ : MethodName)) hown (mvT hZ (own_W hw 6 rfl)) (mvT hZ (own_W hw 7 rfl)) (mvT hZ (own_W hw 8 rfl)) (mvT hZ (own_W hw 9 rfl)) (by decide) (backOf (W := 2) (own_rmex36 l Z a0 hw [] bn1 (6 : Int32) kn1 (FP.i2d q1.toInt32) (own_v0_1 q1) (FP.i2d q2.toInt32) (own_v0_2 q2) (FP.i2d q3.toInt32) (own_v0_3 q3) (FP.i2d q4.toInt32) (own_v0_4 q4) Tk290.heap n0 (Nat.le_trans Z0 sz291) F296 (by decide) (c214_nn49_3_2 hs35) (by decide) (c347_nn22 hs35) (by decide) (c242_nn13_7 hs35) (c347_nn37 hs35)) hZ (own_W hw 9 rfl) (own_W hw 8 rfl) (by decide) (by decide)) (g := (mkF m 347 #[.val (.int p0), .val (.long q1), .second, .val (.long q2), .second, .val (.long q3), .second, .val (.long q4), .second, .val (.int 6), .val (.ref bn1), .val (.ref bn239), .val (.ref bk290_0), .val (.int 1)] [(.int 3), (.int 6), (.ref bn1), (.double (own_vh6_7 (own_v0_3 q3)))])) rfl (by rw [hml]; rfl) (argsL := [(.ref bn1), (.int 6), (.int 3)]) (rest := [(.double (own_vh6_7 (own_v0_3 q3)))]) (lenOf own_pd0 rfl) rfl (by show 2 * 0 + _ ≤ _; exact Nat.le_of_eq rfl) (hb hby at_347) (fun _ _ => ⟨rfl, ek302, (by decide : 3 + 0 ≤ _), (by decide : 18 + 0 ≤ _)⟩)
    dsimp only [Pt.U, Pt.locs, Pt.cells, Pt.slots] at Xk305 lk305 yk305 zk305 stk305 hQk305
    replace lk305 := lk305.symm; replace yk305 := yk305.symm; replace zk305 := zk305.symm; subst lk305 yk305 zk305
    obtain ⟨rfl, Nk305q, ek305⟩ := hQk305
    have Nk305 := Fr.app Nk302 Nk305q
    obtain ⟨fs, hr, hrun, hended, hW, hsame⟩ := Xk305.leave (v := some (.int 1)) (fun h => by rw [Bd.returns] at h; cases h)
    refine ⟨_, _, pre0 _ (Ks35 _ (K238 _ (?_))), hrun, hended, _, _, rfl, ?_, ⟨_, rfl⟩, hW, hsame.mono (by decide) (by decide)⟩
    · show Steps p.tables e below (To33.setTop (mkF m 89 #[.val (.int p0), .val (.long q1), .second, .val (.long q2), .second, .val (.long q3), .second, .val (.long q4), .second, .val (.int 6), .val (.ref bn1), .unset, .unset, .unset] [])) _
      refine XS.iload Xo33.here hx rfl (hb hby at_89) rfl ?_
      refine stn239 _ ?_
      refine XS.astore Xn239.here hx rfl (hb hby at_93) rfl rfl (l' := #[.val (.int p0), .val (.long q1), .second, .val (.long q2), .second, .val (.long q3), .second, .val (.long q4), .second, .val (.int 6), .val (.ref bn1), .val (.ref bn239), .unset, .unset]) rfl ?_
      refine XS.iload Xn239.here hx rfl (hb hby at_95) rfl ?_
      refine XS.ifNo Xn239.here hx rfl (hb hby at_97) rfl (XT.i0_le_f (by decide : (0 : Int32) < (6 : Int32))) ?_
      refine XS.aload Xn239.here hx rfl (hb hby at_100) rfl rfl ?_
      refine XS.iconst Xn239.here hx rfl (hb hby at_102) ?_
      refine XS.aload Xn239.here hx rfl (hb hby at_103) rfl rfl ?_
      refine XS.iconst Xn239.here hx rfl (hb hby at_105) ?_
      refine Xn239.daload hx (j := (0 : Int32)) (v := (.double (FP.i2d q1.toInt32))) (by rw [en239]; exact Aro242.1) (State.isArrayOf_alike hZ.alike Aro242.2.1) Aro242.2.2 hi243 ha244 (g := (mkF m 106 #[.val (.int p0), .val (.long q1), .second, .val (.long q2), .second, .val (.long q3), .second, .val (.long q4), .second, .val (.int 6), .val (.ref bn1), .val (.ref bn239), .unset, .unset] [(.int 0), (.ref bn1), (.int 0), (.ref bn239)])) rfl rfl (hb hby at_106) _ ?_
      show Steps p.tables e below (Tn239.setTop (mkF m 107 #[.val (.int p0), .val (.long q1), .second, .val (.long q2), .second, .val (.long q3), .second, .val (.long q4), .second, .val (.int 6), .val (.ref bn1), .val (.ref bn239), .unset, .unset] [(.double (FP.i2d q1.toInt32)), (.int 0), (.ref bn239)])) _
      refine sto247 _ ?_
      refine XS.iload Xo247.here hx rfl (hb hby at_108) rfl ?_
      refine XS.iconst Xo247.here hx rfl (hb hby at_110) ?_
      refine XS.icmpNo Xo247.here hx rfl (hb hby at_111) rfl (XT.ii_le_f (by decide : (1 : Int32) < (6 : Int32))) ?_
      refine XS.aload Xo247.here hx rfl (hb hby at_114) rfl rfl ?_
      refine XS.iconst Xo247.here hx rfl (hb hby at_116) ?_
      refine XS.aload Xo247.here hx rfl (hb hby at_117) rfl rfl ?_
      refine XS.iconst Xo247.here hx rfl (hb hby at_119) ?_
      refine Xo247.daload hx (j := (1 : Int32)) (v := (.double (own_v0_1 q1))) (by rw [eo247]; exact Aro251.1) (State.isArrayOf_alike hZ.alike Aro251.2.1) Aro251.2.2 hi252 ha253 (g := (mkF m 120 #[.val (.int p0), .val (.long q1), .second, .val (.long q2), .second, .val (.long q3), .second, .val (.long q4), .second, .val (.int 6), .val (.ref bn1), .val (.ref bn239), .unset, .unset] [(.int 1), (.ref bn1), (.int 1), (.ref bn239)])) rfl rfl (hb hby at_120) _ ?_
      show Steps p.tables e below (To247.setTop (mkF m 121 #[.val (.int p0), .val (.long q1), .second, .val (.long q2), .second, .val (.long q3), .second, .val (.long q4), .second, .val (.int 6), .val (.ref bn1), .val (.ref bn239), .unset, .unset] [(.double (own_v0_1 q1)), (.int 1), (.ref bn239)])) _
      refine sto256 _ ?_
      refine XS.iload Xo256.here hx rfl (hb hby at_122) rfl ?_
      refine XS.iconst Xo256.here hx rfl (hb hby at_124) ?_
      refine XS.icmpNo Xo256.here hx rfl (hb hby at_125) rfl (XT.ii_le_f (by decide : (2 : Int32) < (6 : Int32))) ?_
      refine XS.aload Xo256.here hx rfl (hb hby at_128) rfl rfl ?_
      refine XS.iconst Xo256.here hx rfl (hb hby at_130) ?_
      refine XS.aload Xo256.here hx rfl (hb hby at_131) rfl rfl ?_
      refine XS.iconst Xo256.here hx rfl (hb hby at_133) ?_
      refine Xo256.daload hx (j := (2 : Int32)) (v := (.double (FP.i2d q2.toInt32))) (by rw [eo256]; exact Aro259.1) (State.isArrayOf_alike hZ.alike Aro259.2.1) Aro259.2.2 hi260 ha261 (g := (mkF m 134 #[.val (.int p0), .val (.long q1), .second, .val (.long q2), .second, .val (.long q3), .second, .val (.long q4), .second, .val (.int 6), .val (.ref bn1), .val (.ref bn239), .unset, .unset] [(.int 2), (.ref bn1), (.int 2), (.ref bn239)])) rfl rfl (hb hby at_134) _ ?_
      show Steps p.tables e below (To256.setTop (mkF m 135 #[.val (.int p0), .val (.long q1), .second, .val (.long q2), .second, .val (.long q3), .second, .val (.long q4), .second, .val (.int 6), .val (.ref bn1), .val (.ref bn239), .unset, .unset] [(.double (FP.i2d q2.toInt32)), (.int 2), (.ref bn239)])) _
      refine sto264 _ ?_
      refine XS.iload Xo264.here hx rfl (hb hby at_136) rfl ?_
      refine XS.iconst Xo264.here hx rfl (hb hby at_138) ?_
      refine XS.icmpNo Xo264.here hx rfl (hb hby at_139) rfl (XT.ii_le_f (by decide : (3 : Int32) < (6 : Int32))) ?_
      refine XS.aload Xo264.here hx rfl (hb hby at_142) rfl rfl ?_
      refine XS.iconst Xo264.here hx rfl (hb hby at_144) ?_
      refine XS.aload Xo264.here hx rfl (hb hby at_145) rfl rfl ?_
      refine XS.iconst Xo264.here hx rfl (hb hby at_147) ?_
      refine Xo264.daload hx (j := (3 : Int32)) (v := (.double (own_v0_2 q2))) (by rw [eo264]; exact Aro267.1) (State.isArrayOf_alike hZ.alike Aro267.2.1) Aro267.2.2 hi268 ha269 (g := (mkF m 148 #[.val (.int p0), .val (.long q1), .second, .val (.long q2), .second, .val (.long q3), .second, .val (.long q4), .second, .val (.int 6), .val (.ref bn1), .val (.ref bn239), .unset, .unset] [(.int 3), (.ref bn1), (.int 3), (.ref bn239)])) rfl rfl (hb hby at_148) _ ?_
      show Steps p.tables e below (To264.setTop (mkF m 149 #[.val (.int p0), .val (.long q1), .second, .val (.long q2), .second, .val (.long q3), .second, .val (.long q4), .second, .val (.int 6), .val (.ref bn1), .val (.ref bn239), .unset, .unset] [(.double (own_v0_2 q2)), (.int 3), (.ref bn239)])) _
      refine sto272 _ ?_
      refine XS.iload Xo272.here hx rfl (hb hby at_150) rfl ?_
      refine XS.iconst Xo272.here hx rfl (hb hby at_152) ?_
      refine XS.icmpNo Xo272.here hx rfl (hb hby at_153) rfl (XT.ii_le_f (by decide : (4 : Int32) < (6 : Int32))) ?_
      refine XS.aload Xo272.here hx rfl (hb hby at_156) rfl rfl ?_
      refine XS.iconst Xo272.here hx rfl (hb hby at_158) ?_
      refine XS.aload Xo272.here hx rfl (hb hby at_159) rfl rfl ?_
      refine XS.iconst Xo272.here hx rfl (hb hby at_161) ?_
      refine Xo272.daload hx (j := (4 : Int32)) (v := (.double (FP.i2d q3.toInt32))) (by rw [eo272]; exact Aro275.1) (State.isArrayOf_alike hZ.alike Aro275.2.1) Aro275.2.2 hi276 ha277 (g := (mkF m 162 #[.val (.int p0), .val (.long q1), .second, .val (.long q2), .second, .val (.long q3), .second, .val (.long q4), .second, .val (.int 6), .val (.ref bn1), .val (.ref bn239), .unset, .unset] [(.int 4), (.ref bn1), (.int 4), (.ref bn239)])) rfl rfl (hb hby at_162) _ ?_
      show Steps p.tables e below (To272.setTop (mkF m 163 #[.val (.int p0), .val (.long q1), .second, .val (.long q2), .second, .val (.long q3), .second, .val (.long q4), .second, .val (.int 6), .val (.ref bn1), .val (.ref bn239), .unset, .unset] [(.double (FP.i2d q3.toInt32)), (.int 4), (.ref bn239)])) _
      refine sto280 _ ?_
      refine XS.iload Xo280.here hx rfl (hb hby at_164) rfl ?_
      refine XS.iconst Xo280.here hx rfl (hb hby at_166) ?_
      refine XS.icmpNo Xo280.here hx rfl (hb hby at_167) rfl (XT.ii_le_f (by decide : (5 : Int32) < (6 : Int32))) ?_
      refine XS.aload Xo280.here hx rfl (hb hby at_170) rfl rfl ?_
      refine XS.iconst Xo280.here hx rfl (hb hby at_172) ?_
      refine XS.aload Xo280.here hx rfl (hb hby at_173) rfl rfl ?_
      refine XS.iconst Xo280.here hx rfl (hb hby at_175) ?_
      refine Xo280.daload hx (j := (5 : Int32)) (v := (.double (own_v0_3 q3))) (by rw [eo280]; exact Aro283.1) (State.isArrayOf_alike hZ.alike Aro283.2.1) Aro283.2.2 hi284 ha285 (g := (mkF m 176 #[.val (.int p0), .val (.long q1), .second, .val (.long q2), .second, .val (.long q3), .second, .val (.long q4), .second, .val (.int 6), .val (.ref bn1), .val (.ref bn239), .unset, .unset] [(.int 5), (.ref bn1), (.int 5), (.ref bn239)])) rfl rfl (hb hby at_176) _ ?_
      show Steps p.tables e below (To280.setTop (mkF m 177 #[.val (.int p0), .val (.long q1), .second, .val (.long q2), .second, .val (.long q3), .second, .val (.long q4), .second, .val (.int 6), .val (.ref bn1), .val (.ref bn239), .unset, .unset] [(.double (own_v0_3 q3)), (.int 5), (.ref bn239)])) _
      refine sto288 _ ?_
      refine XS.iload Xo288.here hx rfl (hb hby at_178) rfl ?_
      refine XS.bipush Xo288.here hx rfl (hb hby at_180) ?_
      refine XS.icmpYes Xo288.here hx rfl (pc0 := 182) (pc' := 195) rfl (hb hby at_182) rfl (XT.ii_le_t (by decide : ¬ ((6 : Int32) < (6 : Int32)))) (by decide) (by decide) ?_
      refine XS.iload Xo288.here hx rfl (hb hby at_195) rfl ?_
      refine XS.bipush Xo288.here hx rfl (hb hby at_197) ?_
      refine XS.icmpYes Xo288.here hx rfl (pc0 := 199) (pc' := 212) rfl (hb hby at_199) rfl (XT.ii_le_t (by decide : ¬ ((7 : Int32) < (6 : Int32)))) (by decide) (by decide) ?_
      refine XS.aload Xo288.here hx rfl (hb hby at_212) rfl rfl ?_
      refine stk290 _ ?_
      show Steps p.tables e below (Tk290.setTop (mkF m 217 #[.val (.int p0), .val (.long q1), .second, .val (.long q2), .second, .val (.long q3), .second, .val (.long q4), .second, .val (.int 6), .val (.ref bn1), .val (.ref bn239), .unset, .unset] [(.ref bk290_0)])) _
      refine XS.astore Xk290.here hx rfl (hb hby at_217) rfl rfl (l' := #[.val (.int p0), .val (.long q1), .second, .val (.long q2), .second, .val (.long q3), .second, .val (.long q4), .second, .val (.int 6), .val (.ref bn1), .val (.ref bn239), .val (.ref bk290_0), .unset]) rfl ?_
      refine XS.aload Xk290.here hx rfl (hb hby at_219) rfl rfl ?_
      refine Xk290.arraylength hx Aro292.1 (State.isArrayOf_alike hZ.alike Aro292.2.1) (g := (mkF m 221 #[.val (.int p0), .val (.long q1), .second, .val (.long q2), .second, .val (.long q3), .second, .val (.long q4), .second, .val (.int 6), .val (.ref bn1), .val (.ref bn239), .val (.ref bk290_0), .unset] [(.ref bk290_0)])) rfl rfl (hb hby at_221) _ ?_
      rw [len_of So292 No292]
      show Steps p.tables e below (Tk290.setTop (mkF m 222 #[.val (.int p0), .val (.long q1), .second, .val (.long q2), .second, .val (.long q3), .second, .val (.long q4), .second, .val (.int 6), .val (.ref bn1), .val (.ref bn239), .val (.ref bk290_0), .unset] [(.int 4)])) _
      refine XS.iload Xk290.here hx rfl (hb hby at_222) rfl ?_
      refine XS.iconst Xk290.here hx rfl (hb hby at_224) ?_
      refine XS.idiv Xk290.here hx rfl (hb hby at_225) rfl (by decide) ?_
      show Steps p.tables e below (Tk290.setTop (mkF m 226 #[.val (.int p0), .val (.long q1), .second, .val (.long q2), .second, .val (.long q3), .second, .val (.long q4), .second, .val (.int 6), .val (.ref bn1), .val (.ref bn239), .val (.ref bk290_0), .unset] [(.int 3), (.int 4)])) _
      refine XS.iconst Xk290.here hx rfl (hb hby at_226) ?_
      refine XS.iadd Xk290.here hx rfl (hb hby at_227) rfl ?_
      refine XS.icmpYes Xk290.here hx rfl (pc0 := 228) (pc' := 233) rfl (hb hby at_228) rfl (XT.ii_eq_t (by decide : (4 : Int32) = (4 : Int32))) (by decide) (by decide) ?_
      refine XS.aload Xk290.here hx rfl (hb hby at_233) rfl rfl ?_
      refine XS.iconst Xk290.here hx rfl (hb hby at_235) ?_
      refine Xk290.daload hx (j := (0 : Int32)) (v := (.double (own_vh6_0 (FP.i2d q1.toInt32) (own_v0_1 q1)))) Aro292.1 (State.isArrayOf_alike hZ.alike Aro292.2.1) Aro292.2.2 hi293 ha294 (g := (mkF m 236 #[.val (.int p0), .val (.long q1), .second, .val (.long q2), .second, .val (.long q3), .second, .val (.long q4), .second, .val (.int 6), .val (.ref bn1), .val (.ref bn239), .val (.ref bk290_0), .unset] [(.int 0), (.ref bk290_0)])) rfl rfl (hb hby at_236) _ ?_
      show Steps p.tables e below (Tk290.setTop (mkF m 237 #[.val (.int p0), .val (.long q1), .second, .val (.long q2), .second, .val (.long q3), .second, .val (.long q4), .second, .val (.int 6), .val (.ref bn1), .val (.ref bn239), .val (.ref bk290_0), .unset] [(.double (own_vh6_0 (FP.i2d q1.toInt32) (own_v0_1 q1)))])) _
      refine XS.aload Xk290.here hx rfl (hb hby at_237) rfl rfl ?_
      refine XS.iload Xk290.here hx rfl (hb hby at_239) rfl ?_
      refine XS.iconst Xk290.here hx rfl (hb hby at_241) ?_
      refine stk295 _ ?_
      show Steps p.tables e below (Tk295.setTop (mkF m 245 #[.val (.int p0), .val (.long q1), .second, .val (.long q2), .second, .val (.long q3), .second, .val (.long q4), .second, .val (.int 6), .val (.ref bn1), .val (.ref bn239), .val (.ref bk290_0), .unset] [(.double (own_rex02_0 (FP.i2d q1.toInt32) (own_v0_1 q1))), (.double (own_vh6_0 (FP.i2d q1.toInt32) (own_v0_1 q1)))])) _
      refine XS.dcmpS Xk295.here hx rfl (hb hby at_245) rfl rfl ?_
      refine XS.ifNo Xk295.here hx rfl (hb hby at_246) rfl (XT.i0_ne_f (hc246_7 hs35)) ?_
      refine XS.iconst Xk295.here hx rfl (hb hby at_249) ?_
      refine XS.goto Xk295.here hx rfl (pc0 := 250) (pc' := 254) rfl (hb hby at_250) (by decide) (by decide) ?_
      refine XS.istore Xk295.here hx rfl (hb hby at_254) rfl (l' := #[.val (.int p0), .val (.long q1), .second, .val (.long q2), .second, .val (.long q3), .second, .val (.long q4), .second, .val (.int 6), .val (.ref bn1), .val (.ref bn239), .val (.ref bk290_0), .val (.int 1)]) rfl ?_
      refine XS.aload Xk295.here hx rfl (hb hby at_256) rfl rfl ?_
      refine Xk295.arraylength hx (by rw [ek295]; exact Aro292.1) (State.isArrayOf_alike hZ.alike Aro292.2.1) (g := (mkF m 258 #[.val (.int p0), .val (.long q1), .second, .val (.long q2), .second, .val (.long q3), .second, .val (.long q4), .second, .val (.int 6), .val (.ref bn1), .val (.ref bn239), .val (.ref bk290_0), .val (.int 1)] [(.ref bk290_0)])) rfl rfl (hb hby at_258) _ ?_
      rw [len_of So292 No292]
      show Steps p.tables e below (Tk295.setTop (mkF m 259 #[.val (.int p0), .val (.long q1), .second, .val (.long q2), .second, .val (.long q3), .second, .val (.long q4), .second, .val (.int 6), .val (.ref bn1), .val (.ref bn239), .val (.ref bk290_0), .val (.int 1)] [(.int 4)])) _
      refine XS.iconst Xk295.here hx rfl (hb hby at_259) ?_
      refine XS.icmpNo Xk295.here hx rfl (hb hby at_260) rfl (XT.ii_le_f (by decide : (1 : Int32) < (4 : Int32))) ?_
      refine XS.iload Xk295.here hx rfl (hb hby at_263) rfl ?_
      refine XS.ifNo Xk295.here hx rfl (hb hby at_265) rfl (XT.i0_eq_f (by decide : ¬ ((1 : Int32) = (0 : Int32)))) ?_
      refine XS.aload Xk295.here hx rfl (hb hby at_268) rfl rfl ?_
      refine XS.iconst Xk295.here hx rfl (hb hby at_270) ?_
      refine Xk295.daload hx (j := (1 : Int32)) (v := (.double (own_vh6_3 (own_v0_1 q1) (FP.i2d q2.toInt32) (own_v0_2 q2)))) (by rw [ek295]; exact Aro292.1) (State.isArrayOf_alike hZ.alike Aro292.2.1) Aro292.2.2 hi297 ha298 (g := (mkF m 271 #[.val (.int p0), .val (.long q1), .second, .val (.long q2), .second, .val (.long q3), .second, .val (.long q4), .second, .val (.int 6), .val (.ref bn1), .val (.ref bn239), .val (.ref bk290_0), .val (.int 1)] [(.int 1), (.ref bk290_0)])) rfl rfl (hb hby at_271) _ ?_
      show Steps p.tables e below (Tk295.setTop (mkF m 272 #[.val (.int p0), .val (.long q1), .second, .val (.long q2), .second, .val (.long q3), .second, .val (.long q4), .second, .val (.int 6), .val (.ref bn1), .val (.ref bn239), .val (.ref bk290_0), .val (.int 1)] [(.double (own_vh6_3 (own_v0_1 q1) (FP.i2d q2.toInt32) (own_v0_2 q2)))])) _
      refine XS.aload Xk295.here hx rfl (hb hby at_272) rfl rfl ?_
      refine XS.iload Xk295.here hx rfl (hb hby at_274) rfl ?_
      refine XS.iconst Xk295.here hx rfl (hb hby at_276) ?_
      refine stk299 _ ?_
      show Steps p.tables e below (Tk299.setTop (mkF m 280 #[.val (.int p0), .val (.long q1), .second, .val (.long q2), .second, .val (.long q3), .second, .val (.long q4), .second, .val (.int 6), .val (.ref bn1), .val (.ref bn239), .val (.ref bk290_0), .val (.int 1)] [(.double (own_rex14_0 (own_v0_1 q1) (FP.i2d q2.toInt32) (own_v0_2 q2))), (.double (own_vh6_3 (own_v0_1 q1) (FP.i2d q2.toInt32) (own_v0_2 q2)))])) _
      refine XS.dcmpS Xk299.here hx rfl (hb hby at_280) rfl rfl ?_
      refine XS.ifNo Xk299.here hx rfl (hb hby at_281) rfl (XT.i0_ne_f (hc281_5 hs35)) ?_
      refine XS.iconst Xk299.here hx rfl (hb hby at_284) ?_
      refine XS.goto Xk299.here hx rfl (pc0 := 285) (pc' := 289) rfl (hb hby at_285) (by decide) (by decide) ?_
      refine XS.istore Xk299.here hx rfl (hb hby at_289) rfl (l' := #[.val (.int p0), .val (.long q1), .second, .val (.long q2), .second, .val (.long q3), .second, .val (.long q4), .second, .val (.int 6), .val (.ref bn1), .val (.ref bn239), .val (.ref bk290_0), .val (.int 1)]) rfl ?_
      refine XS.aload Xk299.here hx rfl (hb hby at_291) rfl rfl ?_
      refine Xk299.arraylength hx (by rw [ek299]; exact Aro292.1) (State.isArrayOf_alike hZ.alike Aro292.2.1) (g := (mkF m 293 #[.val (.int p0), .val (.long q1), .second, .val (.long q2), .second, .val (.long q3), .second, .val (.long q4), .second, .val (.int 6), .val (.ref bn1), .val (.ref bn239), .val (.ref bk290_0), .val (.int 1)] [(.ref bk290_0)])) rfl rfl (hb hby at_293) _ ?_
      rw [len_of So292 No292]
      show Steps p.tables e below (Tk299.setTop (mkF m 294 #[.val (.int p0), .val (.long q1), .second, .val (.long q2), .second, .val (.long q3), .second, .val (.long q4), .second, .val (.int 6), .val (.ref bn1), .val (.ref bn239), .val (.ref bk290_0), .val (.int 1)] [(.int 4)])) _
      refine XS.iconst Xk299.here hx rfl (hb hby at_294) ?_
      refine XS.icmpNo Xk299.here hx rfl (hb hby at_295) rfl (XT.ii_le_f (by decide : (2 : Int32) < (4 : Int32))) ?_
      refine XS.iload Xk299.here hx rfl (hb hby at_298) rfl ?_
      refine XS.ifNo Xk299.here hx rfl (hb hby at_300) rfl (XT.i0_eq_f (by decide : ¬ ((1 : Int32) = (0 : Int32)))) ?_
      refine XS.aload Xk299.here hx rfl (hb hby at_303) rfl rfl ?_
      refine XS.iconst Xk299.here hx rfl (hb hby at_305) ?_
      refine Xk299.daload hx (j := (2 : Int32)) (v := (.double (own_vh6_6 (own_v0_2 q2) (FP.i2d q3.toInt32) (own_v0_3 q3)))) (by rw [ek299]; exact Aro292.1) (State.isArrayOf_alike hZ.alike Aro292.2.1) Aro292.2.2 hi300 ha301 (g := (mkF m 306 #[.val (.int p0), .val (.long q1), .second, .val (.long q2), .second, .val (.long q3), .second, .val (.long q4), .second, .val (.int 6), .val (.ref bn1), .val (.ref bn239), .val (.ref bk290_0), .val (.int 1)] [(.int 2), (.ref bk290_0)])) rfl rfl (hb hby at_306) _ ?_
      show Steps p.tables e below (Tk299.setTop (mkF m 307 #[.val (.int p0), .val (.long q1), .second, .val (.long q2), .second, .val (.long q3), .second, .val (.long q4), .second, .val (.int 6), .val (.ref bn1), .val (.ref bn239), .val (.ref bk290_0), .val (.int 1)] [(.double (own_vh6_6 (own_v0_2 q2) (FP.i2d q3.toInt32) (own_v0_3 q3)))])) _
      refine XS.aload Xk299.here hx rfl (hb hby at_307) rfl rfl ?_
      refine XS.iload Xk299.here hx rfl (hb hby at_309) rfl ?_
      refine XS.iconst Xk299.here hx rfl (hb hby at_311) ?_
      refine stk302 _ ?_
      show Steps p.tables e below (Tk302.setTop (mkF m 315 #[.val (.int p0), .val (.long q1), .second, .val (.long q2), .second, .val (.long q3), .second, .val (.long q4), .second, .val (.int 6), .val (.ref bn1), .val (.ref bn239), .val (.ref bk290_0), .val (.int 1)] [(.double (own_rex26_0 (own_v0_2 q2) (FP.i2d q3.toInt32) (own_v0_3 q3))), (.double (own_vh6_6 (own_v0_2 q2) (FP.i2d q3.toInt32) (own_v0_3 q3)))])) _
      refine XS.dcmpS Xk302.here hx rfl (hb hby at_315) rfl rfl ?_
      refine XS.ifNo Xk302.here hx rfl (hb hby at_316) rfl (XT.i0_ne_f (hc316_3 hs35)) ?_
      refine XS.iconst Xk302.here hx rfl (hb hby at_319) ?_
      refine XS.goto Xk302.here hx rfl (pc0 := 320) (pc' := 324) rfl (hb hby at_320) (by decide) (by decide) ?_
      refine XS.istore Xk302.here hx rfl (hb hby at_324) rfl (l' := #[.val (.int p0), .val (.long q1), .second, .val (.long q2), .second, .val (.long q3), .second, .val (.long q4), .second, .val (.int 6), .val (.ref bn1), .val (.ref bn239), .val (.ref bk290_0), .val (.int 1)]) rfl ?_
      refine XS.aload Xk302.here hx rfl (hb hby at_326) rfl rfl ?_
      refine Xk302.arraylength hx (by rw [ek302]; exact Aro292.1) (State.isArrayOf_alike hZ.alike Aro292.2.1) (g := (mkF m 328 #[.val (.int p0), .val (.long q1), .second, .val (.long q2), .second, .val (.long q3), .second, .val (.long q4), .second, .val (.int 6), .val (.ref bn1), .val (.ref bn239), .val (.ref bk290_0), .val (.int 1)] [(.ref bk290_0)])) rfl rfl (hb hby at_328) _ ?_
      rw [len_of So292 No292]
      show Steps p.tables e below (Tk302.setTop (mkF m 329 #[.val (.int p0), .val (.long q1), .second, .val (.long q2), .second, .val (.long q3), .second, .val (.long q4), .second, .val (.int 6), .val (.ref bn1), .val (.ref bn239), .val (.ref bk290_0), .val (.int 1)] [(.int 4)])) _
      refine XS.iconst Xk302.here hx rfl (hb hby at_329) ?_
      refine XS.icmpNo Xk302.here hx rfl (hb hby at_330) rfl (XT.ii_le_f (by decide : (3 : Int32) < (4 : Int32))) ?_
      refine XS.iload Xk302.here hx rfl (hb hby at_333) rfl ?_
      refine XS.ifNo Xk302.here hx rfl (hb hby at_335) rfl (XT.i0_eq_f (by decide : ¬ ((1 : Int32) = (0 : Int32)))) ?_
      refine XS.aload Xk302.here hx rfl (hb hby at_338) rfl rfl ?_
      refine XS.iconst Xk302.here hx rfl (hb hby at_340) ?_
      refine Xk302.daload hx (j := (3 : Int32)) (v := (.double (own_vh6_7 (own_v0_3 q3)))) (by rw [ek302]; exact Aro292.1) (State.isArrayOf_alike hZ.alike Aro292.2.1) Aro292.2.2 hi303 ha304 (g := (mkF m 341 #[.val (.int p0), .val (.long q1), .second, .val (.long q2), .second, .val (.long q3), .second, .val (.long q4), .second, .val (.int 6), .val (.ref bn1), .val (.ref bn239), .val (.ref bk290_0), .val (.int 1)] [(.int 3), (.ref bk290_0)])) rfl rfl (hb hby at_341) _ ?_
      show Steps p.tables e below (Tk302.setTop (mkF m 342 #[.val (.int p0), .val (.long q1), .second, .val (.long q2), .second, .val (.long q3), .second, .val (.long q4), .second, .val (.int 6), .val (.ref bn1), .val (.ref bn239), .val (.ref bk290_0), .val (.int 1)] [(.double (own_vh6_7 (own_v0_3 q3)))])) _
      refine XS.aload Xk302.here hx rfl (hb hby at_342) rfl rfl ?_
      refine XS.iload Xk302.here hx rfl (hb hby at_344) rfl ?_
      refine XS.iconst Xk302.here hx rfl (hb hby at_346) ?_
      refine stk305 _ ?_
      show Steps p.tables e below (Tk305.setTop (mkF m 350 #[.val (.int p0), .val (.long q1), .second, .val (.long q2), .second, .val (.long q3), .second, .val (.long q4), .second, .val (.int 6), .val (.ref bn1), .val (.ref bn239), .val (.ref bk290_0), .val (.int 1)] [(.double (own_rex36_0 (own_v0_3 q3))), (.double (own_vh6_7 (own_v0_3 q3)))])) _
      refine XS.dcmpS Xk305.here hx rfl (hb hby at_350) rfl rfl ?_
      refine XS.ifNo Xk305.here hx rfl (hb hby at_351) rfl (XT.i0_ne_f (hc351 hs35)) ?_
      refine XS.iconst Xk305.here hx rfl (hb hby at_354) ?_
      refine XS.goto Xk305.here hx rfl (pc0 := 355) (pc' := 359) rfl (hb hby at_355) (by decide) (by decide) ?_
      refine XS.istore Xk305.here hx rfl (hb hby at_359) rfl (l' := #[.val (.int p0), .val (.long q1), .second, .val (.long q2), .second, .val (.long q3), .second, .val (.long q4), .second, .val (.int 6), .val (.ref bn1), .val (.ref bn239), .val (.ref bk290_0), .val (.int 1)]) rfl ?_
      refine XS.aload Xk305.here hx rfl (hb hby at_361) rfl rfl ?_
      refine Xk305.arraylength hx (by rw [ek305]; exact Aro292.1) (State.isArrayOf_alike hZ.alike Aro292.2.1) (g := (mkF m 363 #[.val (.int p0), .val (.long q1), .second, .val (.long q2), .second, .val (.long q3), .second, .val (.long q4), .second, .val (.int 6), .val (.ref bn1), .val (.ref bn239), .val (.ref bk290_0), .val (.int 1)] [(.ref bk290_0)])) rfl rfl (hb hby at_363) _ ?_
      rw [len_of So292 No292]
      show Steps p.tables e below (Tk305.setTop (mkF m 364 #[.val (.int p0), .val (.long q1), .second, .val (.long q2), .second, .val (.long q3), .second, .val (.long q4), .second, .val (.int 6), .val (.ref bn1), .val (.ref bn239), .val (.ref bk290_0), .val (.int 1)] [(.int 4)])) _
      refine XS.iconst Xk305.here hx rfl (hb hby at_364) ?_
      refine XS.icmpYes Xk305.here hx rfl (pc0 := 365) (pc' := 396) rfl (hb hby at_365) rfl (XT.ii_le_t (by decide : ¬ ((4 : Int32) < (4 : Int32)))) (by decide) (by decide) ?_
      refine XS.iload Xk305.here hx rfl (hb hby at_396) rfl ?_
      show Steps p.tables e below (Tk305.setTop (mkF m 398 #[.val (.int p0), .val (.long q1), .second, .val (.long q2), .second, .val (.long q3), .second, .val (.long q4), .second, .val (.int 6), .val (.ref bn1), .val (.ref bn239), .val (.ref bk290_0), .val (.int 1)] [(.int 1)])) _
      exact retN Xk305 hx (t := .boolean) Bd.returns (by simp) (hb hby at_398) hr
    · show own_Q0 Z p0 q1 q2 q3 q4 h0 n0 _ Tk305.heap _
      rw [ek305]
      exact ⟨rfl, Nk305⟩
  · have K306 : ∀ t, Steps p.tables e below (To33.setTop (mkF m 89 #[.val (.int p0), .val (.long q1), .second, .val (.long q2), .second, .val (.long q3), .second, .val (.long q4), .second, .val (.int 7), .val (.ref bn1), .unset, .unset, .unset] [])) t → Steps p.tables e below (To33.setTop (mkF m 89 #[.val (.int p0), .val (.long q1), .second, .val (.long q2), .second, .val (.long q3), .second, .val (.long q4), .second, .val (.int (own_v0_0 p0)), .val (.ref bn1), .unset, .unset, .unset] [])) t := by intro t kt; rw [hs35]; exact kt
    obtain ⟨Tn307, hn307, kn307, Xn307, en307, En307, An307, stn307⟩ := newP Xo33 hx hZ (own_W hw 1 rfl) eo33 (g := (mkF m 91 #[.val (.int p0), .val (.long q1), .second, .val (.long q2), .second, .val (.long q3), .second, .val (.long q4), .second, .val (.int 7), .val (.ref bn1), .unset, .unset, .unset] [(.int 7)])) rfl (hb hby at_91) rfl (by decide) (cap := 7) (by decide) (by decide) (by decide) (by decide)
    obtain ⟨bn307, gn307⟩ : ∃ z, z = ho33.size := ⟨_, rfl⟩
    rw [← gn307] at An307 stn307
    have g_bn307 : n0 ≤ bn307 := Nat.le_trans (Nat.le_trans Z0 sz34) (Nat.le_of_eq gn307.symm)
    have sz_bn307 : h0.size ≤ bn307 := Nat.le_trans sz34 (Nat.le_of_eq gn307.symm)
    have sz308 : h0.size ≤ hn307.size := Nat.le_trans sz34 En307.1
    have V_bn307 : Arv Z hn307 bn307 kn307 .double (7 : Int32) [(.double 0), (.double 0), (.double 0), (.double 0), (.double 0), (.double 0), (.double 0)] (.double 0) := (Arv.new An307 (by decide)).pad (pad_rep [] (.double 0) 7)
    have F309 := (Vwo33.ext En307)
    obtain ⟨clo310, Aro310, qo310, So310, No310, Ho310, Go310⟩ := id F309
    have hi311 := inb_of (j := (0 : Int32)) So310 ⟨by decide, by decide⟩
    have ha312 : _ = some (Value.double (FP.i2d q1.toInt32)) := Ho310.at hi311 rfl
    obtain ⟨clo313, Aro313, qo313, So313, No313, Ho313, Go313⟩ := id V_bn307
    have hi314 := inb_of (j := (0 : Int32)) So313 ⟨by decide, by decide⟩
    obtain ⟨To315, ho315, Xo315, eo315, Wo315, sto315⟩ := stD Xn307 hx hZ en307 Aro313 (j := (0 : Int32)) hi314 (g := (mkF m 107 #[.val (.int p0), .val (.long q1), .second, .val (.long q2), .second, .val (.long q3), .second, .val (.long q4), .second, .val (.int 7), .val (.ref bn1), .val (.ref bn307), .unset, .unset] [(.double (FP.i2d q1.toInt32)), (.int 0), (.ref bn307)])) rfl rfl (hb hby at_107)
    have Vwo315 : Arv Z ho315 bn307 kn307 .double (7 : Int32) [(.double (FP.i2d q1.toInt32)), (.double 0), (.double 0), (.double 0), (.double 0), (.double 0), (.double 0)] (.double 0) := Arv.set Aro313 qo313 So313 No313 Ho313 Go313 rfl Wo315 0 rfl (Nat.le_of_ble_eq_true rfl)
    have sz316 : h0.size ≤ ho315.size := Nat.le_trans sz308 (Nat.le_of_eq Wo315.size.symm)
    have Nfo315 := Fr.snoc Xo315 Nfo33 g_bn307
    have ne317 : bn1 ≠ bn307 := (Nat.ne_of_lt (Nat.lt_of_lt_of_le Vwo33.lt (Nat.le_of_eq gn307.symm)))
    have F318 := (F309.other Wo315 ne317)
    obtain ⟨clo319, Aro319, qo319, So319, No319, Ho319, Go319⟩ := id F318
    have hi320 := inb_of (j := (1 : Int32)) So319 ⟨by decide, by decide⟩
    have ha321 : _ = some (Value.double (own_v0_1 q1)) := Ho319.at hi320 rfl
    obtain ⟨clo322, Aro322, qo322, So322, No322, Ho322, Go322⟩ := id Vwo315
    have hi323 := inb_of (j := (1 : Int32)) So322 ⟨by decide, by decide⟩
    obtain ⟨To324, ho324, Xo324, eo324, Wo324, sto324⟩ := stD Xo315 hx hZ eo315 Aro322 (j := (1 : Int32)) hi323 (g := (mkF m 121 #[.val (.int p0), .val (.long q1), .second, .val (.long q2), .second, .val (.long q3), .second, .val (.long q4), .second, .val (.int 7), .val (.ref bn1), .val (.ref bn307), .unset, .unset] [(.double (own_v0_1 q1)), (.int 1), (.ref bn307)])) rfl rfl (hb hby at_121)
    have Vwo324 : Arv Z ho324 bn307 kn307 .double (7 : Int32) [(.double (FP.i2d q1.toInt32)), (.double (own_v0_1 q1)), (.double 0), (.double 0), (.double 0), (.double 0), (.double 0)] (.double 0) := Arv.set Aro322 qo322 So322 No322 Ho322 Go322 rfl Wo324 1 rfl (Nat.le_of_ble_eq_true rfl)
    have sz325 : h0.size ≤ ho324.size := Nat.le_trans sz316 (Nat.le_of_eq Wo324.size.symm)
    have Nfo324 := Fr.snoc Xo324 Nfo315 g_bn307
    have F326 := (F318.other Wo324 ne317)
    obtain ⟨clo327, Aro327, qo327, So327, No327, Ho327, Go327⟩ := id F326
    have hi328 := inb_of (j := (2 : Int32)) So327 ⟨by decide, by decide⟩
    have ha329 : _ = some (Value.double (FP.i2d q2.toInt32)) := Ho327.at hi328 rfl
    obtain ⟨clo330, Aro330, qo330, So330, No330, Ho330, Go330⟩ := id Vwo324
    have hi331 := inb_of (j := (2 : Int32)) So330 ⟨by decide, by decide⟩
    obtain ⟨To332, ho332, Xo332, eo332, Wo332, sto332⟩ := stD Xo324 hx hZ eo324 Aro330 (j := (2 : Int32)) hi331 (g := (mkF m 135 #[.val (.int p0), .val (.long q1), .second, .val (.long q2), .second, .val (.long q3), .second, .val (.long q4), .second, .val (.int 7), .val (.ref bn1), .val (.ref bn307), .unset, .unset] [(.double (FP.i2d q2.toInt32)), (.int 2), (.ref bn307)])) rfl rfl (hb hby at_135)
    have Vwo332 : Arv Z ho332 bn307 kn307 .double (7 : Int32) [(.double (FP.i2d q1.toInt32)), (.double (own_v0_1 q1)), (.double (FP.i2d q2.toInt32)), (.double 0), (.double 0), (.double 0), (.double 0)] (.double 0) := Arv.set Aro330 qo330 So330 No330 Ho330 Go330 rfl Wo332 2 rfl (Nat.le_of_ble_eq_true rfl)
    have sz333 : h0.size ≤ ho332.size := Nat.le_trans sz325 (Nat.le_of_eq Wo332.size.symm)
    have Nfo332 := Fr.snoc Xo332 Nfo324 g_bn307
    have F334 := (F326.other Wo332 ne317)
    obtain ⟨clo335, Aro335, qo335, So335, No335, Ho335, Go335⟩ := id F334
    have hi336 := inb_of (j := (3 : Int32)) So335 ⟨by decide, by decide⟩
    have ha337 : _ = some (Value.double (own_v0_2 q2)) := Ho335.at hi336 rfl
    obtain ⟨clo338, Aro338, qo338, So338, No338, Ho338, Go338⟩ := id Vwo332
    have hi339 := inb_of (j := (3 : Int32)) So338 ⟨by decide, by decide⟩
    obtain ⟨To340, ho340, Xo340, eo340, Wo340, sto340⟩ := stD Xo332 hx hZ eo332 Aro338 (j := (3 : Int32)) hi339 (g := (mkF m 149 #[.val (.int p0), .val (.long q1), .second, .val (.long q2), .second, .val (.long q3), .second, .val (.long q4), .second, .val (.int 7), .val (.ref bn1), .val (.ref bn307), .unset, .unset] [(.double (own_v0_2 q2)), (.int 3), (.ref bn307)])) rfl rfl (hb hby at_149)
    have Vwo340 : Arv Z ho340 bn307 kn307 .double (7 : Int32) [(.double (FP.i2d q1.toInt32)), (.double (own_v0_1 q1)), (.double (FP.i2d q2.toInt32)), (.double (own_v0_2 q2)), (.double 0), (.double 0), (.double 0)] (.double 0) := Arv.set Aro338 qo338 So338 No338 Ho338 Go338 rfl Wo340 3 rfl (Nat.le_of_ble_eq_true rfl)
    have sz341 : h0.size ≤ ho340.size := Nat.le_trans sz333 (Nat.le_of_eq Wo340.size.symm)
    have Nfo340 := Fr.snoc Xo340 Nfo332 g_bn307
    have F342 := (F334.other Wo340 ne317)
    obtain ⟨clo343, Aro343, qo343, So343, No343, Ho343, Go343⟩ := id F342
    have hi344 := inb_of (j := (4 : Int32)) So343 ⟨by decide, by decide⟩
    have ha345 : _ = some (Value.double (FP.i2d q3.toInt32)) := Ho343.at hi344 rfl
    obtain ⟨clo346, Aro346, qo346, So346, No346, Ho346, Go346⟩ := id Vwo340
    have hi347 := inb_of (j := (4 : Int32)) So346 ⟨by decide, by decide⟩
    obtain ⟨To348, ho348, Xo348, eo348, Wo348, sto348⟩ := stD Xo340 hx hZ eo340 Aro346 (j := (4 : Int32)) hi347 (g := (mkF m 163 #[.val (.int p0), .val (.long q1), .second, .val (.long q2), .second, .val (.long q3), .second, .val (.long q4), .second, .val (.int 7), .val (.ref bn1), .val (.ref bn307), .unset, .unset] [(.double (FP.i2d q3.toInt32)), (.int 4), (.ref bn307)])) rfl rfl (hb hby at_163)
    have Vwo348 : Arv Z ho348 bn307 kn307 .double (7 : Int32) [(.double (FP.i2d q1.toInt32)), (.double (own_v0_1 q1)), (.double (FP.i2d q2.toInt32)), (.double (own_v0_2 q2)), (.double (FP.i2d q3.toInt32)), (.double 0), (.double 0)] (.double 0) := Arv.set Aro346 qo346 So346 No346 Ho346 Go346 rfl Wo348 4 rfl (Nat.le_of_ble_eq_true rfl)
    have sz349 : h0.size ≤ ho348.size := Nat.le_trans sz341 (Nat.le_of_eq Wo348.size.symm)
    have Nfo348 := Fr.snoc Xo348 Nfo340 g_bn307
    have F350 := (F342.other Wo348 ne317)
    obtain ⟨clo351, Aro351, qo351, So351, No351, Ho351, Go351⟩ := id F350
    have hi352 := inb_of (j := (5 : Int32)) So351 ⟨by decide, by decide⟩
    have ha353 : _ = some (Value.double (own_v0_3 q3)) := Ho351.at hi352 rfl
    obtain ⟨clo354, Aro354, qo354, So354, No354, Ho354, Go354⟩ := id Vwo348
    have hi355 := inb_of (j := (5 : Int32)) So354 ⟨by decide, by decide⟩
    obtain ⟨To356, ho356, Xo356, eo356, Wo356, sto356⟩ := stD Xo348 hx hZ eo348 Aro354 (j := (5 : Int32)) hi355 (g := (mkF m 177 #[.val (.int p0), .val (.long q1), .second, .val (.long q2), .second, .val (.long q3), .second, .val (.long q4), .second, .val (.int 7), .val (.ref bn1), .val (.ref bn307), .unset, .unset] [(.double (own_v0_3 q3)), (.int 5), (.ref bn307)])) rfl rfl (hb hby at_177)
    have Vwo356 : Arv Z ho356 bn307 kn307 .double (7 : Int32) [(.double (FP.i2d q1.toInt32)), (.double (own_v0_1 q1)), (.double (FP.i2d q2.toInt32)), (.double (own_v0_2 q2)), (.double (FP.i2d q3.toInt32)), (.double (own_v0_3 q3)), (.double 0)] (.double 0) := Arv.set Aro354 qo354 So354 No354 Ho354 Go354 rfl Wo356 5 rfl (Nat.le_of_ble_eq_true rfl)
    have sz357 : h0.size ≤ ho356.size := Nat.le_trans sz349 (Nat.le_of_eq Wo356.size.symm)
    have Nfo356 := Fr.snoc Xo356 Nfo348 g_bn307
    have F358 := (F350.other Wo356 ne317)
    obtain ⟨clo359, Aro359, qo359, So359, No359, Ho359, Go359⟩ := id F358
    have hi360 := inb_of (j := (6 : Int32)) So359 ⟨by decide, by decide⟩
    have ha361 : _ = some (Value.double (FP.i2d q4.toInt32)) := Ho359.at hi360 rfl
    obtain ⟨clo362, Aro362, qo362, So362, No362, Ho362, Go362⟩ := id Vwo356
    have hi363 := inb_of (j := (6 : Int32)) So362 ⟨by decide, by decide⟩
    obtain ⟨To364, ho364, Xo364, eo364, Wo364, sto364⟩ := stD Xo356 hx hZ eo356 Aro362 (j := (6 : Int32)) hi363 (g := (mkF m 194 #[.val (.int p0), .val (.long q1), .second, .val (.long q2), .second, .val (.long q3), .second, .val (.long q4), .second, .val (.int 7), .val (.ref bn1), .val (.ref bn307), .unset, .unset] [(.double (FP.i2d q4.toInt32)), (.int 6), (.ref bn307)])) rfl rfl (hb hby at_194)
    have Vwo364 : Arv Z ho364 bn307 kn307 .double (7 : Int32) [(.double (FP.i2d q1.toInt32)), (.double (own_v0_1 q1)), (.double (FP.i2d q2.toInt32)), (.double (own_v0_2 q2)), (.double (FP.i2d q3.toInt32)), (.double (own_v0_3 q3)), (.double (FP.i2d q4.toInt32))] (.double 0) := Arv.set Aro362 qo362 So362 No362 Ho362 Go362 rfl Wo364 6 rfl (Nat.le_of_ble_eq_true rfl)
    have sz365 : h0.size ≤ ho364.size := Nat.le_trans sz357 (Nat.le_of_eq Wo364.size.symm)
    have Nfo364 := Fr.snoc Xo364 Nfo356 g_bn307
    obtain ⟨_, _, ⟨Tk366, Lk366, kk366, nk366⟩, -, Xk366, ⟨Lck366, hQk366, lk366, yk366, zk366⟩, stk366⟩ := Jvm.LawKit.callS Xo364 hx (y := (⟨"com/example/surepath/surepath/TravelTime$Lattices", "halved", "([D)[D"⟩ : MethodName)) hown (mvT hZ (own_W hw 2 rfl)) (mvT hZ (own_W hw 3 rfl)) (mvT hZ (own_W hw 4 rfl)) (mvT hZ (own_W hw 5 rfl)) (by decide) (backOf (W := 0) (own_rmh7 l Z a0 hw [] bn307 kn307 (FP.i2d q1.toInt32) (own_v0_1 q1) (FP.i2d q2.toInt32) (own_v0_2 q2) (FP.i2d q3.toInt32) (own_v0_3 q3) (FP.i2d q4.toInt32) ho364 n0 (Nat.le_trans Z0 sz365) Vwo364 (c214_nn32_7 hs35) (c214_nn49_6 hs35) (c214_nn50_6 hs35) (c214_nn67_6 hs35) (c214_nn32_2_6 hs35) (c214_nn49_2_5 hs35) (c214_nn50_2_5 hs35) (c214_nn67_2_5 hs35) (c214_nn32_3_4 hs35) (c214_nn49_3_3 hs35) (c214_nn50_3_3 hs35) (c214_nn67_3_3 hs35) (c214_nn32_4_2 hs35)) hZ (own_W hw 5 rfl) (own_W hw 4 rfl) (by decide) (by decide)) (g := (mkF m 214 #[.val (.int p0), .val (.long q1), .second, .val (.long q2), .second, .val (.long q3), .second, .val (.long q4), .second, .val (.int 7), .val (.ref bn1), .val (.ref bn307), .unset, .unset] [(.ref bn307)])) rfl (by rw [hml]; rfl) (argsL := [(.ref bn307)]) (rest := []) (lenOf own_pd1 rfl) rfl (by show 2 * 0 + _ ≤ _; exact Nat.le_of_eq rfl) (hb hby at_214) (fun _ _ => ⟨rfl, eo364, (by decide : 2 + 1 ≤ _), (by decide : 15 + 4 ≤ _)⟩)
    dsimp only [Pt.U, Pt.locs, Pt.cells, Pt.slots] at Xk366 lk366 yk366 zk366 stk366 hQk366
    replace lk366 := lk366.symm; replace yk366 := yk366.symm; replace zk366 := zk366.symm; subst lk366 yk366 zk366
    obtain ⟨bk366_0, kk366_1, rfl, Nk366q, Kk366, lebk366_0, Qk366_0⟩ := hQk366
    have g_bk366_0 : n0 ≤ bk366_0 := Nat.le_trans (Nat.le_trans Z0 sz365) lebk366_0
    have sz_bk366_0 : h0.size ≤ bk366_0 := Nat.le_trans sz365 lebk366_0
    have sz367 : h0.size ≤ Tk366.heap.size := Nat.le_trans sz365 Kk366.1
    have Nk366 := Fr.app Nfo364 Nk366q
    obtain ⟨clo368, Aro368, qo368, So368, No368, Ho368, Go368⟩ := id Qk366_0
    have hi369 := inb_of (j := (0 : Int32)) So368 ⟨by decide, by decide⟩
    have ha370 : _ = some (Value.double (own_vh7_0 (FP.i2d q1.toInt32) (own_v0_1 q1))) := Ho368.at hi369 rfl
    have F372 := ((F358.other Wo364 ne317).keep Kk366 nin0)
    obtain ⟨_, _, ⟨Tk371, Lk371, kk371, nk371⟩, -, Xk371, ⟨Lck371, hQk371, lk371, yk371, zk371⟩, stk371⟩ := Jvm.LawKit.callS Xk366 hx (y := (⟨"com/example/surepath/surepath/LatticesHalvedPinLaw", "expect", "([DII)D"⟩ : MethodName)) hown (mvT hZ (own_W hw 6 rfl)) (mvT hZ (own_W hw 7 rfl)) (mvT hZ (own_W hw 8 rfl)) (mvT hZ (own_W hw 9 rfl)) (by decide) (backOf (W := 2) (own_rmex02 l Z a0 hw [] bn1 (7 : Int32) kn1 (FP.i2d q1.toInt32) (own_v0_1 q1) (FP.i2d q2.toInt32) (own_v0_2 q2) (FP.i2d q3.toInt32) (own_v0_3 q3) (FP.i2d q4.toInt32) (own_v0_4 q4) Tk366.heap n0 (Nat.le_trans Z0 sz367) F372 (c242_nn13_8 hs35) (by decide) (c242_nn22_8 hs35) (by decide) (c214_nn49_6 hs35) (c242_nn37_8 hs35)) hZ (own_W hw 9 rfl) (own_W hw 8 rfl) (by decide) (by decide)) (g := (mkF m 242 #[.val (.int p0), .val (.long q1), .second, .val (.long q2), .second, .val (.long q3), .second, .val (.long q4), .second, .val (.int 7), .val (.ref bn1), .val (.ref bn307), .val (.ref bk366_0), .unset] [(.int 0), (.int 7), (.ref bn1), (.double (own_vh7_0 (FP.i2d q1.toInt32) (own_v0_1 q1)))])) rfl (by rw [hml]; rfl) (argsL := [(.ref bn1), (.int 7), (.int 0)]) (rest := [(.double (own_vh7_0 (FP.i2d q1.toInt32) (own_v0_1 q1)))]) (lenOf own_pd0 rfl) rfl (by show 2 * 0 + _ ≤ _; exact Nat.le_of_eq rfl) (hb hby at_242) (fun _ _ => ⟨rfl, rfl, (by decide : 3 + 0 ≤ _), (by decide : 19 + 0 ≤ _)⟩)
    dsimp only [Pt.U, Pt.locs, Pt.cells, Pt.slots] at Xk371 lk371 yk371 zk371 stk371 hQk371
    replace lk371 := lk371.symm; replace yk371 := yk371.symm; replace zk371 := zk371.symm; subst lk371 yk371 zk371
    obtain ⟨rfl, Nk371q, ek371⟩ := hQk371
    have Nk371 := Fr.app Nk366 Nk371q
    have hi373 := inb_of (j := (1 : Int32)) So368 ⟨by decide, by decide⟩
    have ha374 : _ = some (Value.double (own_vh7_3 (own_v0_1 q1) (FP.i2d q2.toInt32) (own_v0_2 q2))) := Ho368.at hi373 rfl
    obtain ⟨_, _, ⟨Tk375, Lk375, kk375, nk375⟩, -, Xk375, ⟨Lck375, hQk375, lk375, yk375, zk375⟩, stk375⟩ := Jvm.LawKit.callS Xk371 hx (y := (⟨"com/example/surepath/surepath/LatticesHalvedPinLaw", "expect", "([DII)D"⟩ : MethodName)) hown (mvT hZ (own_W hw 6 rfl)) (mvT hZ (own_W hw 7 rfl)) (mvT hZ (own_W hw 8 rfl)) (mvT hZ (own_W hw 9 rfl)) (by decide) (backOf (W := 2) (own_rmex14 l Z a0 hw [] bn1 (7 : Int32) kn1 (FP.i2d q1.toInt32) (own_v0_1 q1) (FP.i2d q2.toInt32) (own_v0_2 q2) (FP.i2d q3.toInt32) (own_v0_3 q3) (FP.i2d q4.toInt32) (own_v0_4 q4) Tk366.heap n0 (Nat.le_trans Z0 sz367) F372 (by decide) (c214_nn49_6 hs35) (by decide) (c277_nn22_6 hs35) (by decide) (c214_nn49_2_5 hs35) (c277_nn37_6 hs35)) hZ (own_W hw 9 rfl) (own_W hw 8 rfl) (by decide) (by decide)) (g := (mkF m 277 #[.val (.int p0), .val (.long q1), .second, .val (.long q2), .second, .val (.long q3), .second, .val (.long q4), .second, .val (.int 7), .val (.ref bn1), .val (.ref bn307), .val (.ref bk366_0), .val (.int 1)] [(.int 1), (.int 7), (.ref bn1), (.double (own_vh7_3 (own_v0_1 q1) (FP.i2d q2.toInt32) (own_v0_2 q2)))])) rfl (by rw [hml]; rfl) (argsL := [(.ref bn1), (.int 7), (.int 1)]) (rest := [(.double (own_vh7_3 (own_v0_1 q1) (FP.i2d q2.toInt32) (own_v0_2 q2)))]) (lenOf own_pd0 rfl) rfl (by show 2 * 0 + _ ≤ _; exact Nat.le_of_eq rfl) (hb hby at_277) (fun _ _ => ⟨rfl, ek371, (by decide : 3 + 0 ≤ _), (by decide : 19 + 0 ≤ _)⟩)
    dsimp only [Pt.U, Pt.locs, Pt.cells, Pt.slots] at Xk375 lk375 yk375 zk375 stk375 hQk375
    replace lk375 := lk375.symm; replace yk375 := yk375.symm; replace zk375 := zk375.symm; subst lk375 yk375 zk375
    obtain ⟨rfl, Nk375q, ek375⟩ := hQk375
    have Nk375 := Fr.app Nk371 Nk375q
    have hi376 := inb_of (j := (2 : Int32)) So368 ⟨by decide, by decide⟩
    have ha377 : _ = some (Value.double (own_vh7_6 (own_v0_2 q2) (FP.i2d q3.toInt32) (own_v0_3 q3))) := Ho368.at hi376 rfl
    obtain ⟨_, _, ⟨Tk378, Lk378, kk378, nk378⟩, -, Xk378, ⟨Lck378, hQk378, lk378, yk378, zk378⟩, stk378⟩ := Jvm.LawKit.callS Xk375 hx (y := (⟨"com/example/surepath/surepath/LatticesHalvedPinLaw", "expect", "([DII)D"⟩ : MethodName)) hown (mvT hZ (own_W hw 6 rfl)) (mvT hZ (own_W hw 7 rfl)) (mvT hZ (own_W hw 8 rfl)) (mvT hZ (own_W hw 9 rfl)) (by decide) (backOf (W := 2) (own_rmex26 l Z a0 hw [] bn1 (7 : Int32) kn1 (FP.i2d q1.toInt32) (own_v0_1 q1) (FP.i2d q2.toInt32) (own_v0_2 q2) (FP.i2d q3.toInt32) (own_v0_3 q3) (FP.i2d q4.toInt32) (own_v0_4 q4) Tk366.heap n0 (Nat.le_trans Z0 sz367) F372 (by decide) (c214_nn49_2_5 hs35) (by decide) (c312_nn22_4 hs35) (by decide) (c214_nn49_3_3 hs35) (c312_nn37_4 hs35)) hZ (own_W hw 9 rfl) (own_W hw 8 rfl) (by decide) (by decide)) (g := (mkF m 312 #[.val (.int p0), .val (.long q1), .second, .val (.long q2), .second, .val (.long q3), .second, .val (.long q4), .second, .val (.int 7), .val (.ref bn1), .val (.ref bn307), .val (.ref bk366_0), .val (.int 1)] [(.int 2), (.int 7), (.ref bn1), (.double (own_vh7_6 (own_v0_2 q2) (FP.i2d q3.toInt32) (own_v0_3 q3)))])) rfl (by rw [hml]; rfl) (argsL := [(.ref bn1), (.int 7), (.int 2)]) (rest := [(.double (own_vh7_6 (own_v0_2 q2) (FP.i2d q3.toInt32) (own_v0_3 q3)))]) (lenOf own_pd0 rfl) rfl (by show 2 * 0 + _ ≤ _; exact Nat.le_of_eq rfl) (hb hby at_312) (fun _ _ => ⟨rfl, ek375, (by decide : 3 + 0 ≤ _), (by decide : 19 + 0 ≤ _)⟩)
    dsimp only [Pt.U, Pt.locs, Pt.cells, Pt.slots] at Xk378 lk378 yk378 zk378 stk378 hQk378
    replace lk378 := lk378.symm; replace yk378 := yk378.symm; replace zk378 := zk378.symm; subst lk378 yk378 zk378
    obtain ⟨rfl, Nk378q, ek378⟩ := hQk378
    have Nk378 := Fr.app Nk375 Nk378q
    have hi379 := inb_of (j := (3 : Int32)) So368 ⟨by decide, by decide⟩
    have ha380 : _ = some (Value.double (own_vh7_8 (own_v0_3 q3) (FP.i2d q4.toInt32))) := Ho368.at hi379 rfl
    obtain ⟨_, _, ⟨Tk381, Lk381, kk381, nk381⟩, -, Xk381, ⟨Lck381, hQk381, lk381, yk381, zk381⟩, stk381⟩ := Jvm.LawKit.callS Xk378 hx (y := (⟨"com/example/surepath/surepath/LatticesHalvedPinLaw", "expect", "([DII)D"⟩ : MethodName)) hown (mvT hZ (own_W hw 6 rfl)) (mvT hZ (own_W hw 7 rfl)) (mvT hZ (own_W hw 8 rfl)) (mvT hZ (own_W hw 9 rfl)) (by decide) (backOf (W := 2) (own_rmex37 l Z a0 hw [] bn1 (7 : Int32) kn1 (FP.i2d q1.toInt32) (own_v0_1 q1) (FP.i2d q2.toInt32) (own_v0_2 q2) (FP.i2d q3.toInt32) (own_v0_3 q3) (FP.i2d q4.toInt32) (own_v0_4 q4) Tk366.heap n0 (Nat.le_trans Z0 sz367) F372 (by decide) (c214_nn49_3_3 hs35) (by decide) (c347_nn22_2 hs35) (by decide) (c242_nn13_8 hs35) (c347_nn37_2 hs35)) hZ (own_W hw 9 rfl) (own_W hw 8 rfl) (by decide) (by decide)) (g := (mkF m 347 #[.val (.int p0), .val (.long q1), .second, .val (.long q2), .second, .val (.long q3), .second, .val (.long q4), .second, .val (.int 7), .val (.ref bn1), .val (.ref bn307), .val (.ref bk366_0), .val (.int 1)] [(.int 3), (.int 7), (.ref bn1), (.double (own_vh7_8 (own_v0_3 q3) (FP.i2d q4.toInt32)))])) rfl (by rw [hml]; rfl) (argsL := [(.ref bn1), (.int 7), (.int 3)]) (rest := [(.double (own_vh7_8 (own_v0_3 q3) (FP.i2d q4.toInt32)))]) (lenOf own_pd0 rfl) rfl (by show 2 * 0 + _ ≤ _; exact Nat.le_of_eq rfl) (hb hby at_347) (fun _ _ => ⟨rfl, ek378, (by decide : 3 + 0 ≤ _), (by decide : 19 + 0 ≤ _)⟩)
    dsimp only [Pt.U, Pt.locs, Pt.cells, Pt.slots] at Xk381 lk381 yk381 zk381 stk381 hQk381
    replace lk381 := lk381.symm; replace yk381 := yk381.symm; replace zk381 := zk381.symm; subst lk381 yk381 zk381
    obtain ⟨rfl, Nk381q, ek381⟩ := hQk381
    have Nk381 := Fr.app Nk378 Nk381q
    obtain ⟨fs, hr, hrun, hended, hW, hsame⟩ := Xk381.leave (v := some (.int 1)) (fun h => by rw [Bd.returns] at h; cases h)
    refine ⟨_, _, pre0 _ (Ks35 _ (K306 _ (?_))), hrun, hended, _, _, rfl, ?_, ⟨_, rfl⟩, hW, hsame.mono (by decide) (by decide)⟩
    · show Steps p.tables e below (To33.setTop (mkF m 89 #[.val (.int p0), .val (.long q1), .second, .val (.long q2), .second, .val (.long q3), .second, .val (.long q4), .second, .val (.int 7), .val (.ref bn1), .unset, .unset, .unset] [])) _
      refine XS.iload Xo33.here hx rfl (hb hby at_89) rfl ?_
      refine stn307 _ ?_
      refine XS.astore Xn307.here hx rfl (hb hby at_93) rfl rfl (l' := #[.val (.int p0), .val (.long q1), .second, .val (.long q2), .second, .val (.long q3), .second, .val (.long q4), .second, .val (.int 7), .val (.ref bn1), .val (.ref bn307), .unset, .unset]) rfl ?_
      refine XS.iload Xn307.here hx rfl (hb hby at_95) rfl ?_
      refine XS.ifNo Xn307.here hx rfl (hb hby at_97) rfl (XT.i0_le_f (by decide : (0 : Int32) < (7 : Int32))) ?_
      refine XS.aload Xn307.here hx rfl (hb hby at_100) rfl rfl ?_
      refine XS.iconst Xn307.here hx rfl (hb hby at_102) ?_
      refine XS.aload Xn307.here hx rfl (hb hby at_103) rfl rfl ?_
      refine XS.iconst Xn307.here hx rfl (hb hby at_105) ?_
      refine Xn307.daload hx (j := (0 : Int32)) (v := (.double (FP.i2d q1.toInt32))) (by rw [en307]; exact Aro310.1) (State.isArrayOf_alike hZ.alike Aro310.2.1) Aro310.2.2 hi311 ha312 (g := (mkF m 106 #[.val (.int p0), .val (.long q1), .second, .val (.long q2), .second, .val (.long q3), .second, .val (.long q4), .second, .val (.int 7), .val (.ref bn1), .val (.ref bn307), .unset, .unset] [(.int 0), (.ref bn1), (.int 0), (.ref bn307)])) rfl rfl (hb hby at_106) _ ?_
      show Steps p.tables e below (Tn307.setTop (mkF m 107 #[.val (.int p0), .val (.long q1), .second, .val (.long q2), .second, .val (.long q3), .second, .val (.long q4), .second, .val (.int 7), .val (.ref bn1), .val (.ref bn307), .unset, .unset] [(.double (FP.i2d q1.toInt32)), (.int 0), (.ref bn307)])) _
      refine sto315 _ ?_
      refine XS.iload Xo315.here hx rfl (hb hby at_108) rfl ?_
      refine XS.iconst Xo315.here hx rfl (hb hby at_110) ?_
      refine XS.icmpNo Xo315.here hx rfl (hb hby at_111) rfl (XT.ii_le_f (by decide : (1 : Int32) < (7 : Int32))) ?_
      refine XS.aload Xo315.here hx rfl (hb hby at_114) rfl rfl ?_
      refine XS.iconst Xo315.here hx rfl (hb hby at_116) ?_
      refine XS.aload Xo315.here hx rfl (hb hby at_117) rfl rfl ?_
      refine XS.iconst Xo315.here hx rfl (hb hby at_119) ?_
      refine Xo315.daload hx (j := (1 : Int32)) (v := (.double (own_v0_1 q1))) (by rw [eo315]; exact Aro319.1) (State.isArrayOf_alike hZ.alike Aro319.2.1) Aro319.2.2 hi320 ha321 (g := (mkF m 120 #[.val (.int p0), .val (.long q1), .second, .val (.long q2), .second, .val (.long q3), .second, .val (.long q4), .second, .val (.int 7), .val (.ref bn1), .val (.ref bn307), .unset, .unset] [(.int 1), (.ref bn1), (.int 1), (.ref bn307)])) rfl rfl (hb hby at_120) _ ?_
      show Steps p.tables e below (To315.setTop (mkF m 121 #[.val (.int p0), .val (.long q1), .second, .val (.long q2), .second, .val (.long q3), .second, .val (.long q4), .second, .val (.int 7), .val (.ref bn1), .val (.ref bn307), .unset, .unset] [(.double (own_v0_1 q1)), (.int 1), (.ref bn307)])) _
      refine sto324 _ ?_
      refine XS.iload Xo324.here hx rfl (hb hby at_122) rfl ?_
      refine XS.iconst Xo324.here hx rfl (hb hby at_124) ?_
      refine XS.icmpNo Xo324.here hx rfl (hb hby at_125) rfl (XT.ii_le_f (by decide : (2 : Int32) < (7 : Int32))) ?_
      refine XS.aload Xo324.here hx rfl (hb hby at_128) rfl rfl ?_
      refine XS.iconst Xo324.here hx rfl (hb hby at_130) ?_
      refine XS.aload Xo324.here hx rfl (hb hby at_131) rfl rfl ?_
      refine XS.iconst Xo324.here hx rfl (hb hby at_133) ?_
      refine Xo324.daload hx (j := (2 : Int32)) (v := (.double (FP.i2d q2.toInt32))) (by rw [eo324]; exact Aro327.1) (State.isArrayOf_alike hZ.alike Aro327.2.1) Aro327.2.2 hi328 ha329 (g := (mkF m 134 #[.val (.int p0), .val (.long q1), .second, .val (.long q2), .second, .val (.long q3), .second, .val (.long q4), .second, .val (.int 7), .val (.ref bn1), .val (.ref bn307), .unset, .unset] [(.int 2), (.ref bn1), (.int 2), (.ref bn307)])) rfl rfl (hb hby at_134) _ ?_
      show Steps p.tables e below (To324.setTop (mkF m 135 #[.val (.int p0), .val (.long q1), .second, .val (.long q2), .second, .val (.long q3), .second, .val (.long q4), .second, .val (.int 7), .val (.ref bn1), .val (.ref bn307), .unset, .unset] [(.double (FP.i2d q2.toInt32)), (.int 2), (.ref bn307)])) _
      refine sto332 _ ?_
      refine XS.iload Xo332.here hx rfl (hb hby at_136) rfl ?_
      refine XS.iconst Xo332.here hx rfl (hb hby at_138) ?_
      refine XS.icmpNo Xo332.here hx rfl (hb hby at_139) rfl (XT.ii_le_f (by decide : (3 : Int32) < (7 : Int32))) ?_
      refine XS.aload Xo332.here hx rfl (hb hby at_142) rfl rfl ?_
      refine XS.iconst Xo332.here hx rfl (hb hby at_144) ?_
      refine XS.aload Xo332.here hx rfl (hb hby at_145) rfl rfl ?_
      refine XS.iconst Xo332.here hx rfl (hb hby at_147) ?_
      refine Xo332.daload hx (j := (3 : Int32)) (v := (.double (own_v0_2 q2))) (by rw [eo332]; exact Aro335.1) (State.isArrayOf_alike hZ.alike Aro335.2.1) Aro335.2.2 hi336 ha337 (g := (mkF m 148 #[.val (.int p0), .val (.long q1), .second, .val (.long q2), .second, .val (.long q3), .second, .val (.long q4), .second, .val (.int 7), .val (.ref bn1), .val (.ref bn307), .unset, .unset] [(.int 3), (.ref bn1), (.int 3), (.ref bn307)])) rfl rfl (hb hby at_148) _ ?_
      show Steps p.tables e below (To332.setTop (mkF m 149 #[.val (.int p0), .val (.long q1), .second, .val (.long q2), .second, .val (.long q3), .second, .val (.long q4), .second, .val (.int 7), .val (.ref bn1), .val (.ref bn307), .unset, .unset] [(.double (own_v0_2 q2)), (.int 3), (.ref bn307)])) _
      refine sto340 _ ?_
      refine XS.iload Xo340.here hx rfl (hb hby at_150) rfl ?_
      refine XS.iconst Xo340.here hx rfl (hb hby at_152) ?_
      refine XS.icmpNo Xo340.here hx rfl (hb hby at_153) rfl (XT.ii_le_f (by decide : (4 : Int32) < (7 : Int32))) ?_
      refine XS.aload Xo340.here hx rfl (hb hby at_156) rfl rfl ?_
      refine XS.iconst Xo340.here hx rfl (hb hby at_158) ?_
      refine XS.aload Xo340.here hx rfl (hb hby at_159) rfl rfl ?_
      refine XS.iconst Xo340.here hx rfl (hb hby at_161) ?_
      refine Xo340.daload hx (j := (4 : Int32)) (v := (.double (FP.i2d q3.toInt32))) (by rw [eo340]; exact Aro343.1) (State.isArrayOf_alike hZ.alike Aro343.2.1) Aro343.2.2 hi344 ha345 (g := (mkF m 162 #[.val (.int p0), .val (.long q1), .second, .val (.long q2), .second, .val (.long q3), .second, .val (.long q4), .second, .val (.int 7), .val (.ref bn1), .val (.ref bn307), .unset, .unset] [(.int 4), (.ref bn1), (.int 4), (.ref bn307)])) rfl rfl (hb hby at_162) _ ?_
      show Steps p.tables e below (To340.setTop (mkF m 163 #[.val (.int p0), .val (.long q1), .second, .val (.long q2), .second, .val (.long q3), .second, .val (.long q4), .second, .val (.int 7), .val (.ref bn1), .val (.ref bn307), .unset, .unset] [(.double (FP.i2d q3.toInt32)), (.int 4), (.ref bn307)])) _
      refine sto348 _ ?_
      refine XS.iload Xo348.here hx rfl (hb hby at_164) rfl ?_
      refine XS.iconst Xo348.here hx rfl (hb hby at_166) ?_
      refine XS.icmpNo Xo348.here hx rfl (hb hby at_167) rfl (XT.ii_le_f (by decide : (5 : Int32) < (7 : Int32))) ?_
      refine XS.aload Xo348.here hx rfl (hb hby at_170) rfl rfl ?_
      refine XS.iconst Xo348.here hx rfl (hb hby at_172) ?_
      refine XS.aload Xo348.here hx rfl (hb hby at_173) rfl rfl ?_
      refine XS.iconst Xo348.here hx rfl (hb hby at_175) ?_
      refine Xo348.daload hx (j := (5 : Int32)) (v := (.double (own_v0_3 q3))) (by rw [eo348]; exact Aro351.1) (State.isArrayOf_alike hZ.alike Aro351.2.1) Aro351.2.2 hi352 ha353 (g := (mkF m 176 #[.val (.int p0), .val (.long q1), .second, .val (.long q2), .second, .val (.long q3), .second, .val (.long q4), .second, .val (.int 7), .val (.ref bn1), .val (.ref bn307), .unset, .unset] [(.int 5), (.ref bn1), (.int 5), (.ref bn307)])) rfl rfl (hb hby at_176) _ ?_
      show Steps p.tables e below (To348.setTop (mkF m 177 #[.val (.int p0), .val (.long q1), .second, .val (.long q2), .second, .val (.long q3), .second, .val (.long q4), .second, .val (.int 7), .val (.ref bn1), .val (.ref bn307), .unset, .unset] [(.double (own_v0_3 q3)), (.int 5), (.ref bn307)])) _
      refine sto356 _ ?_
      refine XS.iload Xo356.here hx rfl (hb hby at_178) rfl ?_
      refine XS.bipush Xo356.here hx rfl (hb hby at_180) ?_
      refine XS.icmpNo Xo356.here hx rfl (hb hby at_182) rfl (XT.ii_le_f (by decide : (6 : Int32) < (7 : Int32))) ?_
      refine XS.aload Xo356.here hx rfl (hb hby at_185) rfl rfl ?_
      refine XS.bipush Xo356.here hx rfl (hb hby at_187) ?_
      refine XS.aload Xo356.here hx rfl (hb hby at_189) rfl rfl ?_
      refine XS.bipush Xo356.here hx rfl (hb hby at_191) ?_
      refine Xo356.daload hx (j := (6 : Int32)) (v := (.double (FP.i2d q4.toInt32))) (by rw [eo356]; exact Aro359.1) (State.isArrayOf_alike hZ.alike Aro359.2.1) Aro359.2.2 hi360 ha361 (g := (mkF m 193 #[.val (.int p0), .val (.long q1), .second, .val (.long q2), .second, .val (.long q3), .second, .val (.long q4), .second, .val (.int 7), .val (.ref bn1), .val (.ref bn307), .unset, .unset] [(.int 6), (.ref bn1), (.int 6), (.ref bn307)])) rfl rfl (hb hby at_193) _ ?_
      show Steps p.tables e below (To356.setTop (mkF m 194 #[.val (.int p0), .val (.long q1), .second, .val (.long q2), .second, .val (.long q3), .second, .val (.long q4), .second, .val (.int 7), .val (.ref bn1), .val (.ref bn307), .unset, .unset] [(.double (FP.i2d q4.toInt32)), (.int 6), (.ref bn307)])) _
      refine sto364 _ ?_
      refine XS.iload Xo364.here hx rfl (hb hby at_195) rfl ?_
      refine XS.bipush Xo364.here hx rfl (hb hby at_197) ?_
      refine XS.icmpYes Xo364.here hx rfl (pc0 := 199) (pc' := 212) rfl (hb hby at_199) rfl (XT.ii_le_t (by decide : ¬ ((7 : Int32) < (7 : Int32)))) (by decide) (by decide) ?_
      refine XS.aload Xo364.here hx rfl (hb hby at_212) rfl rfl ?_
      refine stk366 _ ?_
      show Steps p.tables e below (Tk366.setTop (mkF m 217 #[.val (.int p0), .val (.long q1), .second, .val (.long q2), .second, .val (.long q3), .second, .val (.long q4), .second, .val (.int 7), .val (.ref bn1), .val (.ref bn307), .unset, .unset] [(.ref bk366_0)])) _
      refine XS.astore Xk366.here hx rfl (hb hby at_217) rfl rfl (l' := #[.val (.int p0), .val (.long q1), .second, .val (.long q2), .second, .val (.long q3), .second, .val (.long q4), .second, .val (.int 7), .val (.ref bn1), .val (.ref bn307), .val (.ref bk366_0), .unset]) rfl ?_
      refine XS.aload Xk366.here hx rfl (hb hby at_219) rfl rfl ?_
      refine Xk366.arraylength hx Aro368.1 (State.isArrayOf_alike hZ.alike Aro368.2.1) (g := (mkF m 221 #[.val (.int p0), .val (.long q1), .second, .val (.long q2), .second, .val (.long q3), .second, .val (.long q4), .second, .val (.int 7), .val (.ref bn1), .val (.ref bn307), .val (.ref bk366_0), .unset] [(.ref bk366_0)])) rfl rfl (hb hby at_221) _ ?_
      rw [len_of So368 No368]
      show Steps p.tables e below (Tk366.setTop (mkF m 222 #[.val (.int p0), .val (.long q1), .second, .val (.long q2), .second, .val (.long q3), .second, .val (.long q4), .second, .val (.int 7), .val (.ref bn1), .val (.ref bn307), .val (.ref bk366_0), .unset] [(.int 4)])) _
      refine XS.iload Xk366.here hx rfl (hb hby at_222) rfl ?_
      refine XS.iconst Xk366.here hx rfl (hb hby at_224) ?_
      refine XS.idiv Xk366.here hx rfl (hb hby at_225) rfl (by decide) ?_
      show Steps p.tables e below (Tk366.setTop (mkF m 226 #[.val (.int p0), .val (.long q1), .second, .val (.long q2), .second, .val (.long q3), .second, .val (.long q4), .second, .val (.int 7), .val (.ref bn1), .val (.ref bn307), .val (.ref bk366_0), .unset] [(.int 3), (.int 4)])) _
      refine XS.iconst Xk366.here hx rfl (hb hby at_226) ?_
      refine XS.iadd Xk366.here hx rfl (hb hby at_227) rfl ?_
      refine XS.icmpYes Xk366.here hx rfl (pc0 := 228) (pc' := 233) rfl (hb hby at_228) rfl (XT.ii_eq_t (by decide : (4 : Int32) = (4 : Int32))) (by decide) (by decide) ?_
      refine XS.aload Xk366.here hx rfl (hb hby at_233) rfl rfl ?_
      refine XS.iconst Xk366.here hx rfl (hb hby at_235) ?_
      refine Xk366.daload hx (j := (0 : Int32)) (v := (.double (own_vh7_0 (FP.i2d q1.toInt32) (own_v0_1 q1)))) Aro368.1 (State.isArrayOf_alike hZ.alike Aro368.2.1) Aro368.2.2 hi369 ha370 (g := (mkF m 236 #[.val (.int p0), .val (.long q1), .second, .val (.long q2), .second, .val (.long q3), .second, .val (.long q4), .second, .val (.int 7), .val (.ref bn1), .val (.ref bn307), .val (.ref bk366_0), .unset] [(.int 0), (.ref bk366_0)])) rfl rfl (hb hby at_236) _ ?_
      show Steps p.tables e below (Tk366.setTop (mkF m 237 #[.val (.int p0), .val (.long q1), .second, .val (.long q2), .second, .val (.long q3), .second, .val (.long q4), .second, .val (.int 7), .val (.ref bn1), .val (.ref bn307), .val (.ref bk366_0), .unset] [(.double (own_vh7_0 (FP.i2d q1.toInt32) (own_v0_1 q1)))])) _
      refine XS.aload Xk366.here hx rfl (hb hby at_237) rfl rfl ?_
      refine XS.iload Xk366.here hx rfl (hb hby at_239) rfl ?_
      refine XS.iconst Xk366.here hx rfl (hb hby at_241) ?_
      refine stk371 _ ?_
      show Steps p.tables e below (Tk371.setTop (mkF m 245 #[.val (.int p0), .val (.long q1), .second, .val (.long q2), .second, .val (.long q3), .second, .val (.long q4), .second, .val (.int 7), .val (.ref bn1), .val (.ref bn307), .val (.ref bk366_0), .unset] [(.double (own_rex02_0 (FP.i2d q1.toInt32) (own_v0_1 q1))), (.double (own_vh7_0 (FP.i2d q1.toInt32) (own_v0_1 q1)))])) _
      refine XS.dcmpS Xk371.here hx rfl (hb hby at_245) rfl rfl ?_
      refine XS.ifNo Xk371.here hx rfl (hb hby at_246) rfl (XT.i0_ne_f (hc246_8 hs35)) ?_
      refine XS.iconst Xk371.here hx rfl (hb hby at_249) ?_
      refine XS.goto Xk371.here hx rfl (pc0 := 250) (pc' := 254) rfl (hb hby at_250) (by decide) (by decide) ?_
      refine XS.istore Xk371.here hx rfl (hb hby at_254) rfl (l' := #[.val (.int p0), .val (.long q1), .second, .val (.long q2), .second, .val (.long q3), .second, .val (.long q4), .second, .val (.int 7), .val (.ref bn1), .val (.ref bn307), .val (.ref bk366_0), .val (.int 1)]) rfl ?_
      refine XS.aload Xk371.here hx rfl (hb hby at_256) rfl rfl ?_
      refine Xk371.arraylength hx (by rw [ek371]; exact Aro368.1) (State.isArrayOf_alike hZ.alike Aro368.2.1) (g := (mkF m 258 #[.val (.int p0), .val (.long q1), .second, .val (.long q2), .second, .val (.long q3), .second, .val (.long q4), .second, .val (.int 7), .val (.ref bn1), .val (.ref bn307), .val (.ref bk366_0), .val (.int 1)] [(.ref bk366_0)])) rfl rfl (hb hby at_258) _ ?_
      rw [len_of So368 No368]
      show Steps p.tables e below (Tk371.setTop (mkF m 259 #[.val (.int p0), .val (.long q1), .second, .val (.long q2), .second, .val (.long q3), .second, .val (.long q4), .second, .val (.int 7), .val (.ref bn1), .val (.ref bn307), .val (.ref bk366_0), .val (.int 1)] [(.int 4)])) _
      refine XS.iconst Xk371.here hx rfl (hb hby at_259) ?_
      refine XS.icmpNo Xk371.here hx rfl (hb hby at_260) rfl (XT.ii_le_f (by decide : (1 : Int32) < (4 : Int32))) ?_
      refine XS.iload Xk371.here hx rfl (hb hby at_263) rfl ?_
      refine XS.ifNo Xk371.here hx rfl (hb hby at_265) rfl (XT.i0_eq_f (by decide : ¬ ((1 : Int32) = (0 : Int32)))) ?_
      refine XS.aload Xk371.here hx rfl (hb hby at_268) rfl rfl ?_
      refine XS.iconst Xk371.here hx rfl (hb hby at_270) ?_
      refine Xk371.daload hx (j := (1 : Int32)) (v := (.double (own_vh7_3 (own_v0_1 q1) (FP.i2d q2.toInt32) (own_v0_2 q2)))) (by rw [ek371]; exact Aro368.1) (State.isArrayOf_alike hZ.alike Aro368.2.1) Aro368.2.2 hi373 ha374 (g := (mkF m 271 #[.val (.int p0), .val (.long q1), .second, .val (.long q2), .second, .val (.long q3), .second, .val (.long q4), .second, .val (.int 7), .val (.ref bn1), .val (.ref bn307), .val (.ref bk366_0), .val (.int 1)] [(.int 1), (.ref bk366_0)])) rfl rfl (hb hby at_271) _ ?_
      show Steps p.tables e below (Tk371.setTop (mkF m 272 #[.val (.int p0), .val (.long q1), .second, .val (.long q2), .second, .val (.long q3), .second, .val (.long q4), .second, .val (.int 7), .val (.ref bn1), .val (.ref bn307), .val (.ref bk366_0), .val (.int 1)] [(.double (own_vh7_3 (own_v0_1 q1) (FP.i2d q2.toInt32) (own_v0_2 q2)))])) _
      refine XS.aload Xk371.here hx rfl (hb hby at_272) rfl rfl ?_
      refine XS.iload Xk371.here hx rfl (hb hby at_274) rfl ?_
      refine XS.iconst Xk371.here hx rfl (hb hby at_276) ?_
      refine stk375 _ ?_
      show Steps p.tables e below (Tk375.setTop (mkF m 280 #[.val (.int p0), .val (.long q1), .second, .val (.long q2), .second, .val (.long q3), .second, .val (.long q4), .second, .val (.int 7), .val (.ref bn1), .val (.ref bn307), .val (.ref bk366_0), .val (.int 1)] [(.double (own_rex14_0 (own_v0_1 q1) (FP.i2d q2.toInt32) (own_v0_2 q2))), (.double (own_vh7_3 (own_v0_1 q1) (FP.i2d q2.toInt32) (own_v0_2 q2)))])) _
      refine XS.dcmpS Xk375.here hx rfl (hb hby at_280) rfl rfl ?_
      refine XS.ifNo Xk375.here hx rfl (hb hby at_281) rfl (XT.i0_ne_f (hc281_6 hs35)) ?_
      refine XS.iconst Xk375.here hx rfl (hb hby at_284) ?_
      refine XS.goto Xk375.here hx rfl (pc0 := 285) (pc' := 289) rfl (hb hby at_285) (by decide) (by decide) ?_
      refine XS.istore Xk375.here hx rfl (hb hby at_289) rfl (l' := #[.val (.int p0), .val (.long q1), .second, .val (.long q2), .second, .val (.long q3), .second, .val (.long q4), .second, .val (.int 7), .val (.ref bn1), .val (.ref bn307), .val (.ref bk366_0), .val (.int 1)]) rfl ?_
      refine XS.aload Xk375.here hx rfl (hb hby at_291) rfl rfl ?_
      refine Xk375.arraylength hx (by rw [ek375]; exact Aro368.1) (State.isArrayOf_alike hZ.alike Aro368.2.1) (g := (mkF m 293 #[.val (.int p0), .val (.long q1), .second, .val (.long q2), .second, .val (.long q3), .second, .val (.long q4), .second, .val (.int 7), .val (.ref bn1), .val (.ref bn307), .val (.ref bk366_0), .val (.int 1)] [(.ref bk366_0)])) rfl rfl (hb hby at_293) _ ?_
      rw [len_of So368 No368]
      show Steps p.tables e below (Tk375.setTop (mkF m 294 #[.val (.int p0), .val (.long q1), .second, .val (.long q2), .second, .val (.long q3), .second, .val (.long q4), .second, .val (.int 7), .val (.ref bn1), .val (.ref bn307), .val (.ref bk366_0), .val (.int 1)] [(.int 4)])) _
      refine XS.iconst Xk375.here hx rfl (hb hby at_294) ?_
      refine XS.icmpNo Xk375.here hx rfl (hb hby at_295) rfl (XT.ii_le_f (by decide : (2 : Int32) < (4 : Int32))) ?_
      refine XS.iload Xk375.here hx rfl (hb hby at_298) rfl ?_
      refine XS.ifNo Xk375.here hx rfl (hb hby at_300) rfl (XT.i0_eq_f (by decide : ¬ ((1 : Int32) = (0 : Int32)))) ?_
      refine XS.aload Xk375.here hx rfl (hb hby at_303) rfl rfl ?_
      refine XS.iconst Xk375.here hx rfl (hb hby at_305) ?_
      refine Xk375.daload hx (j := (2 : Int32)) (v := (.double (own_vh7_6 (own_v0_2 q2) (FP.i2d q3.toInt32) (own_v0_3 q3)))) (by rw [ek375]; exact Aro368.1) (State.isArrayOf_alike hZ.alike Aro368.2.1) Aro368.2.2 hi376 ha377 (g := (mkF m 306 #[.val (.int p0), .val (.long q1), .second, .val (.long q2), .second, .val (.long q3), .second, .val (.long q4), .second, .val (.int 7), .val (.ref bn1), .val (.ref bn307), .val (.ref bk366_0), .val (.int 1)] [(.int 2), (.ref bk366_0)])) rfl rfl (hb hby at_306) _ ?_
      show Steps p.tables e below (Tk375.setTop (mkF m 307 #[.val (.int p0), .val (.long q1), .second, .val (.long q2), .second, .val (.long q3), .second, .val (.long q4), .second, .val (.int 7), .val (.ref bn1), .val (.ref bn307), .val (.ref bk366_0), .val (.int 1)] [(.double (own_vh7_6 (own_v0_2 q2) (FP.i2d q3.toInt32) (own_v0_3 q3)))])) _
      refine XS.aload Xk375.here hx rfl (hb hby at_307) rfl rfl ?_
      refine XS.iload Xk375.here hx rfl (hb hby at_309) rfl ?_
      refine XS.iconst Xk375.here hx rfl (hb hby at_311) ?_
      refine stk378 _ ?_
      show Steps p.tables e below (Tk378.setTop (mkF m 315 #[.val (.int p0), .val (.long q1), .second, .val (.long q2), .second, .val (.long q3), .second, .val (.long q4), .second, .val (.int 7), .val (.ref bn1), .val (.ref bn307), .val (.ref bk366_0), .val (.int 1)] [(.double (own_rex26_0 (own_v0_2 q2) (FP.i2d q3.toInt32) (own_v0_3 q3))), (.double (own_vh7_6 (own_v0_2 q2) (FP.i2d q3.toInt32) (own_v0_3 q3)))])) _
      refine XS.dcmpS Xk378.here hx rfl (hb hby at_315) rfl rfl ?_
      refine XS.ifNo Xk378.here hx rfl (hb hby at_316) rfl (XT.i0_ne_f (hc316_4 hs35)) ?_
      refine XS.iconst Xk378.here hx rfl (hb hby at_319) ?_
      refine XS.goto Xk378.here hx rfl (pc0 := 320) (pc' := 324) rfl (hb hby at_320) (by decide) (by decide) ?_
      refine XS.istore Xk378.here hx rfl (hb hby at_324) rfl (l' := #[.val (.int p0), .val (.long q1), .second, .val (.long q2), .second, .val (.long q3), .second, .val (.long q4), .second, .val (.int 7), .val (.ref bn1), .val (.ref bn307), .val (.ref bk366_0), .val (.int 1)]) rfl ?_
      refine XS.aload Xk378.here hx rfl (hb hby at_326) rfl rfl ?_
      refine Xk378.arraylength hx (by rw [ek378]; exact Aro368.1) (State.isArrayOf_alike hZ.alike Aro368.2.1) (g := (mkF m 328 #[.val (.int p0), .val (.long q1), .second, .val (.long q2), .second, .val (.long q3), .second, .val (.long q4), .second, .val (.int 7), .val (.ref bn1), .val (.ref bn307), .val (.ref bk366_0), .val (.int 1)] [(.ref bk366_0)])) rfl rfl (hb hby at_328) _ ?_
      rw [len_of So368 No368]
      show Steps p.tables e below (Tk378.setTop (mkF m 329 #[.val (.int p0), .val (.long q1), .second, .val (.long q2), .second, .val (.long q3), .second, .val (.long q4), .second, .val (.int 7), .val (.ref bn1), .val (.ref bn307), .val (.ref bk366_0), .val (.int 1)] [(.int 4)])) _
      refine XS.iconst Xk378.here hx rfl (hb hby at_329) ?_
      refine XS.icmpNo Xk378.here hx rfl (hb hby at_330) rfl (XT.ii_le_f (by decide : (3 : Int32) < (4 : Int32))) ?_
      refine XS.iload Xk378.here hx rfl (hb hby at_333) rfl ?_
      refine XS.ifNo Xk378.here hx rfl (hb hby at_335) rfl (XT.i0_eq_f (by decide : ¬ ((1 : Int32) = (0 : Int32)))) ?_
      refine XS.aload Xk378.here hx rfl (hb hby at_338) rfl rfl ?_
      refine XS.iconst Xk378.here hx rfl (hb hby at_340) ?_
      refine Xk378.daload hx (j := (3 : Int32)) (v := (.double (own_vh7_8 (own_v0_3 q3) (FP.i2d q4.toInt32)))) (by rw [ek378]; exact Aro368.1) (State.isArrayOf_alike hZ.alike Aro368.2.1) Aro368.2.2 hi379 ha380 (g := (mkF m 341 #[.val (.int p0), .val (.long q1), .second, .val (.long q2), .second, .val (.long q3), .second, .val (.long q4), .second, .val (.int 7), .val (.ref bn1), .val (.ref bn307), .val (.ref bk366_0), .val (.int 1)] [(.int 3), (.ref bk366_0)])) rfl rfl (hb hby at_341) _ ?_
      show Steps p.tables e below (Tk378.setTop (mkF m 342 #[.val (.int p0), .val (.long q1), .second, .val (.long q2), .second, .val (.long q3), .second, .val (.long q4), .second, .val (.int 7), .val (.ref bn1), .val (.ref bn307), .val (.ref bk366_0), .val (.int 1)] [(.double (own_vh7_8 (own_v0_3 q3) (FP.i2d q4.toInt32)))])) _
      refine XS.aload Xk378.here hx rfl (hb hby at_342) rfl rfl ?_
      refine XS.iload Xk378.here hx rfl (hb hby at_344) rfl ?_
      refine XS.iconst Xk378.here hx rfl (hb hby at_346) ?_
      refine stk381 _ ?_
      show Steps p.tables e below (Tk381.setTop (mkF m 350 #[.val (.int p0), .val (.long q1), .second, .val (.long q2), .second, .val (.long q3), .second, .val (.long q4), .second, .val (.int 7), .val (.ref bn1), .val (.ref bn307), .val (.ref bk366_0), .val (.int 1)] [(.double (own_rex37_0 (own_v0_3 q3) (FP.i2d q4.toInt32))), (.double (own_vh7_8 (own_v0_3 q3) (FP.i2d q4.toInt32)))])) _
      refine XS.dcmpS Xk381.here hx rfl (hb hby at_350) rfl rfl ?_
      refine XS.ifNo Xk381.here hx rfl (hb hby at_351) rfl (XT.i0_ne_f (hc351_2 hs35)) ?_
      refine XS.iconst Xk381.here hx rfl (hb hby at_354) ?_
      refine XS.goto Xk381.here hx rfl (pc0 := 355) (pc' := 359) rfl (hb hby at_355) (by decide) (by decide) ?_
      refine XS.istore Xk381.here hx rfl (hb hby at_359) rfl (l' := #[.val (.int p0), .val (.long q1), .second, .val (.long q2), .second, .val (.long q3), .second, .val (.long q4), .second, .val (.int 7), .val (.ref bn1), .val (.ref bn307), .val (.ref bk366_0), .val (.int 1)]) rfl ?_
      refine XS.aload Xk381.here hx rfl (hb hby at_361) rfl rfl ?_
      refine Xk381.arraylength hx (by rw [ek381]; exact Aro368.1) (State.isArrayOf_alike hZ.alike Aro368.2.1) (g := (mkF m 363 #[.val (.int p0), .val (.long q1), .second, .val (.long q2), .second, .val (.long q3), .second, .val (.long q4), .second, .val (.int 7), .val (.ref bn1), .val (.ref bn307), .val (.ref bk366_0), .val (.int 1)] [(.ref bk366_0)])) rfl rfl (hb hby at_363) _ ?_
      rw [len_of So368 No368]
      show Steps p.tables e below (Tk381.setTop (mkF m 364 #[.val (.int p0), .val (.long q1), .second, .val (.long q2), .second, .val (.long q3), .second, .val (.long q4), .second, .val (.int 7), .val (.ref bn1), .val (.ref bn307), .val (.ref bk366_0), .val (.int 1)] [(.int 4)])) _
      refine XS.iconst Xk381.here hx rfl (hb hby at_364) ?_
      refine XS.icmpYes Xk381.here hx rfl (pc0 := 365) (pc' := 396) rfl (hb hby at_365) rfl (XT.ii_le_t (by decide : ¬ ((4 : Int32) < (4 : Int32)))) (by decide) (by decide) ?_
      refine XS.iload Xk381.here hx rfl (hb hby at_396) rfl ?_
      show Steps p.tables e below (Tk381.setTop (mkF m 398 #[.val (.int p0), .val (.long q1), .second, .val (.long q2), .second, .val (.long q3), .second, .val (.long q4), .second, .val (.int 7), .val (.ref bn1), .val (.ref bn307), .val (.ref bk366_0), .val (.int 1)] [(.int 1)])) _
      exact retN Xk381 hx (t := .boolean) Bd.returns (by simp) (hb hby at_398) hr
    · show own_Q0 Z p0 q1 q2 q3 q4 h0 n0 _ Tk381.heap _
      rw [ek381]
      exact ⟨rfl, Nk381⟩
  · have K382 : ∀ t, Steps p.tables e below (To33.setTop (mkF m 89 #[.val (.int p0), .val (.long q1), .second, .val (.long q2), .second, .val (.long q3), .second, .val (.long q4), .second, .val (.int 8), .val (.ref bn1), .unset, .unset, .unset] [])) t → Steps p.tables e below (To33.setTop (mkF m 89 #[.val (.int p0), .val (.long q1), .second, .val (.long q2), .second, .val (.long q3), .second, .val (.long q4), .second, .val (.int (own_v0_0 p0)), .val (.ref bn1), .unset, .unset, .unset] [])) t := by intro t kt; rw [hs35]; exact kt
    obtain ⟨Tn383, hn383, kn383, Xn383, en383, En383, An383, stn383⟩ := newP Xo33 hx hZ (own_W hw 1 rfl) eo33 (g := (mkF m 91 #[.val (.int p0), .val (.long q1), .second, .val (.long q2), .second, .val (.long q3), .second, .val (.long q4), .second, .val (.int 8), .val (.ref bn1), .unset, .unset, .unset] [(.int 8)])) rfl (hb hby at_91) rfl (by decide) (cap := 8) (by decide) (by decide) (by decide) (by decide)
    obtain ⟨bn383, gn383⟩ : ∃ z, z = ho33.size := ⟨_, rfl⟩
    rw [← gn383] at An383 stn383
    have g_bn383 : n0 ≤ bn383 := Nat.le_trans (Nat.le_trans Z0 sz34) (Nat.le_of_eq gn383.symm)
    have sz_bn383 : h0.size ≤ bn383 := Nat.le_trans sz34 (Nat.le_of_eq gn383.symm)
    have sz384 : h0.size ≤ hn383.size := Nat.le_trans sz34 En383.1
    have V_bn383 : Arv Z hn383 bn383 kn383 .double (8 : Int32) [(.double 0), (.double 0), (.double 0), (.double 0), (.double 0), (.double 0), (.double 0), (.double 0)] (.double 0) := (Arv.new An383 (by decide)).pad (pad_rep [] (.double 0) 8)
    have F385 := (Vwo33.ext En383)
    obtain ⟨clo386, Aro386, qo386, So386, No386, Ho386, Go386⟩ := id F385
    have hi387 := inb_of (j := (0 : Int32)) So386 ⟨by decide, by decide⟩
    have ha388 : _ = some (Value.double (FP.i2d q1.toInt32)) := Ho386.at hi387 rfl
    obtain ⟨clo389, Aro389, qo389, So389, No389, Ho389, Go389⟩ := id V_bn383
    have hi390 := inb_of (j := (0 : Int32)) So389 ⟨by decide, by decide⟩
    obtain ⟨To391, ho391, Xo391, eo391, Wo391, sto391⟩ := stD Xn383 hx hZ en383 Aro389 (j := (0 : Int32)) hi390 (g := (mkF m 107 #[.val (.int p0), .val (.long q1), .second, .val (.long q2), .second, .val (.long q3), .second, .val (.long q4), .second, .val (.int 8), .val (.ref bn1), .val (.ref bn383), .unset, .unset] [(.double (FP.i2d q1.toInt32)), (.int 0), (.ref bn383)])) rfl rfl (hb hby at_107)
    have Vwo391 : Arv Z ho391 bn383 kn383 .double (8 : Int32) [(.double (FP.i2d q1.toInt32)), (.double 0), (.double 0), (.double 0), (.double 0), (.double 0), (.double 0), (.double 0)] (.double 0) := Arv.set Aro389 qo389 So389 No389 Ho389 Go389 rfl Wo391 0 rfl (Nat.le_of_ble_eq_true rfl)
    have sz392 : h0.size ≤ ho391.size := Nat.le_trans sz384 (Nat.le_of_eq Wo391.size.symm)
    have Nfo391 := Fr.snoc Xo391 Nfo33 g_bn383
    have ne393 : bn1 ≠ bn383 := (Nat.ne_of_lt (Nat.lt_of_lt_of_le Vwo33.lt (Nat.le_of_eq gn383.symm)))
    have F394 := (F385.other Wo391 ne393)
    obtain ⟨clo395, Aro395, qo395, So395, No395, Ho395, Go395⟩ := id F394
    have hi396 := inb_of (j := (1 : Int32)) So395 ⟨by decide, by decide⟩
    have ha397 : _ = some (Value.double (own_v0_1 q1)) := Ho395.at hi396 rfl
    obtain ⟨clo398, Aro398, qo398, So398, No398, Ho398, Go398⟩ := id Vwo391
    have hi399 := inb_of (j := (1 : Int32)) So398 ⟨by decide, by decide⟩
    obtain ⟨To400, ho400, Xo400, eo400, Wo400, sto400⟩ := stD Xo391 hx hZ eo391 Aro398 (j := (1 : Int32)) hi399 (g := (mkF m 121 #[.val (.int p0), .val (.long q1), .second, .val (.long q2), .second, .val (.long q3), .second, .val (.long q4), .second, .val (.int 8), .val (.ref bn1), .val (.ref bn383), .unset, .unset] [(.double (own_v0_1 q1)), (.int 1), (.ref bn383)])) rfl rfl (hb hby at_121)
    have Vwo400 : Arv Z ho400 bn383 kn383 .double (8 : Int32) [(.double (FP.i2d q1.toInt32)), (.double (own_v0_1 q1)), (.double 0), (.double 0), (.double 0), (.double 0), (.double 0), (.double 0)] (.double 0) := Arv.set Aro398 qo398 So398 No398 Ho398 Go398 rfl Wo400 1 rfl (Nat.le_of_ble_eq_true rfl)
    have sz401 : h0.size ≤ ho400.size := Nat.le_trans sz392 (Nat.le_of_eq Wo400.size.symm)
    have Nfo400 := Fr.snoc Xo400 Nfo391 g_bn383
    have F402 := (F394.other Wo400 ne393)
    obtain ⟨clo403, Aro403, qo403, So403, No403, Ho403, Go403⟩ := id F402
    have hi404 := inb_of (j := (2 : Int32)) So403 ⟨by decide, by decide⟩
    have ha405 : _ = some (Value.double (FP.i2d q2.toInt32)) := Ho403.at hi404 rfl
    obtain ⟨clo406, Aro406, qo406, So406, No406, Ho406, Go406⟩ := id Vwo400
    have hi407 := inb_of (j := (2 : Int32)) So406 ⟨by decide, by decide⟩
    obtain ⟨To408, ho408, Xo408, eo408, Wo408, sto408⟩ := stD Xo400 hx hZ eo400 Aro406 (j := (2 : Int32)) hi407 (g := (mkF m 135 #[.val (.int p0), .val (.long q1), .second, .val (.long q2), .second, .val (.long q3), .second, .val (.long q4), .second, .val (.int 8), .val (.ref bn1), .val (.ref bn383), .unset, .unset] [(.double (FP.i2d q2.toInt32)), (.int 2), (.ref bn383)])) rfl rfl (hb hby at_135)
    have Vwo408 : Arv Z ho408 bn383 kn383 .double (8 : Int32) [(.double (FP.i2d q1.toInt32)), (.double (own_v0_1 q1)), (.double (FP.i2d q2.toInt32)), (.double 0), (.double 0), (.double 0), (.double 0), (.double 0)] (.double 0) := Arv.set Aro406 qo406 So406 No406 Ho406 Go406 rfl Wo408 2 rfl (Nat.le_of_ble_eq_true rfl)
    have sz409 : h0.size ≤ ho408.size := Nat.le_trans sz401 (Nat.le_of_eq Wo408.size.symm)
    have Nfo408 := Fr.snoc Xo408 Nfo400 g_bn383
    have F410 := (F402.other Wo408 ne393)
    obtain ⟨clo411, Aro411, qo411, So411, No411, Ho411, Go411⟩ := id F410
    have hi412 := inb_of (j := (3 : Int32)) So411 ⟨by decide, by decide⟩
    have ha413 : _ = some (Value.double (own_v0_2 q2)) := Ho411.at hi412 rfl
    obtain ⟨clo414, Aro414, qo414, So414, No414, Ho414, Go414⟩ := id Vwo408
    have hi415 := inb_of (j := (3 : Int32)) So414 ⟨by decide, by decide⟩
    obtain ⟨To416, ho416, Xo416, eo416, Wo416, sto416⟩ := stD Xo408 hx hZ eo408 Aro414 (j := (3 : Int32)) hi415 (g := (mkF m 149 #[.val (.int p0), .val (.long q1), .second, .val (.long q2), .second, .val (.long q3), .second, .val (.long q4), .second, .val (.int 8), .val (.ref bn1), .val (.ref bn383), .unset, .unset] [(.double (own_v0_2 q2)), (.int 3), (.ref bn383)])) rfl rfl (hb hby at_149)
    have Vwo416 : Arv Z ho416 bn383 kn383 .double (8 : Int32) [(.double (FP.i2d q1.toInt32)), (.double (own_v0_1 q1)), (.double (FP.i2d q2.toInt32)), (.double (own_v0_2 q2)), (.double 0), (.double 0), (.double 0), (.double 0)] (.double 0) := Arv.set Aro414 qo414 So414 No414 Ho414 Go414 rfl Wo416 3 rfl (Nat.le_of_ble_eq_true rfl)
    have sz417 : h0.size ≤ ho416.size := Nat.le_trans sz409 (Nat.le_of_eq Wo416.size.symm)
    have Nfo416 := Fr.snoc Xo416 Nfo408 g_bn383
    have F418 := (F410.other Wo416 ne393)
    obtain ⟨clo419, Aro419, qo419, So419, No419, Ho419, Go419⟩ := id F418
    have hi420 := inb_of (j := (4 : Int32)) So419 ⟨by decide, by decide⟩
    have ha421 : _ = some (Value.double (FP.i2d q3.toInt32)) := Ho419.at hi420 rfl
    obtain ⟨clo422, Aro422, qo422, So422, No422, Ho422, Go422⟩ := id Vwo416
    have hi423 := inb_of (j := (4 : Int32)) So422 ⟨by decide, by decide⟩
    obtain ⟨To424, ho424, Xo424, eo424, Wo424, sto424⟩ := stD Xo416 hx hZ eo416 Aro422 (j := (4 : Int32)) hi423 (g := (mkF m 163 #[.val (.int p0), .val (.long q1), .second, .val (.long q2), .second, .val (.long q3), .second, .val (.long q4), .second, .val (.int 8), .val (.ref bn1), .val (.ref bn383), .unset, .unset] [(.double (FP.i2d q3.toInt32)), (.int 4), (.ref bn383)])) rfl rfl (hb hby at_163)
    have Vwo424 : Arv Z ho424 bn383 kn383 .double (8 : Int32) [(.double (FP.i2d q1.toInt32)), (.double (own_v0_1 q1)), (.double (FP.i2d q2.toInt32)), (.double (own_v0_2 q2)), (.double (FP.i2d q3.toInt32)), (.double 0), (.double 0), (.double 0)] (.double 0) := Arv.set Aro422 qo422 So422 No422 Ho422 Go422 rfl Wo424 4 rfl (Nat.le_of_ble_eq_true rfl)
    have sz425 : h0.size ≤ ho424.size := Nat.le_trans sz417 (Nat.le_of_eq Wo424.size.symm)
    have Nfo424 := Fr.snoc Xo424 Nfo416 g_bn383
    have F426 := (F418.other Wo424 ne393)
    obtain ⟨clo427, Aro427, qo427, So427, No427, Ho427, Go427⟩ := id F426
    have hi428 := inb_of (j := (5 : Int32)) So427 ⟨by decide, by decide⟩
    have ha429 : _ = some (Value.double (own_v0_3 q3)) := Ho427.at hi428 rfl
    obtain ⟨clo430, Aro430, qo430, So430, No430, Ho430, Go430⟩ := id Vwo424
    have hi431 := inb_of (j := (5 : Int32)) So430 ⟨by decide, by decide⟩
    obtain ⟨To432, ho432, Xo432, eo432, Wo432, sto432⟩ := stD Xo424 hx hZ eo424 Aro430 (j := (5 : Int32)) hi431 (g := (mkF m 177 #[.val (.int p0), .val (.long q1), .second, .val (.long q2), .second, .val (.long q3), .second, .val (.long q4), .second, .val (.int 8), .val (.ref bn1), .val (.ref bn383), .unset, .unset] [(.double (own_v0_3 q3)), (.int 5), (.ref bn383)])) rfl rfl (hb hby at_177)
    have Vwo432 : Arv Z ho432 bn383 kn383 .double (8 : Int32) [(.double (FP.i2d q1.toInt32)), (.double (own_v0_1 q1)), (.double (FP.i2d q2.toInt32)), (.double (own_v0_2 q2)), (.double (FP.i2d q3.toInt32)), (.double (own_v0_3 q3)), (.double 0), (.double 0)] (.double 0) := Arv.set Aro430 qo430 So430 No430 Ho430 Go430 rfl Wo432 5 rfl (Nat.le_of_ble_eq_true rfl)
    have sz433 : h0.size ≤ ho432.size := Nat.le_trans sz425 (Nat.le_of_eq Wo432.size.symm)
    have Nfo432 := Fr.snoc Xo432 Nfo424 g_bn383
    have F434 := (F426.other Wo432 ne393)
    obtain ⟨clo435, Aro435, qo435, So435, No435, Ho435, Go435⟩ := id F434
    have hi436 := inb_of (j := (6 : Int32)) So435 ⟨by decide, by decide⟩
    have ha437 : _ = some (Value.double (FP.i2d q4.toInt32)) := Ho435.at hi436 rfl
    obtain ⟨clo438, Aro438, qo438, So438, No438, Ho438, Go438⟩ := id Vwo432
    have hi439 := inb_of (j := (6 : Int32)) So438 ⟨by decide, by decide⟩
    obtain ⟨To440, ho440, Xo440, eo440, Wo440, sto440⟩ := stD Xo432 hx hZ eo432 Aro438 (j := (6 : Int32)) hi439 (g := (mkF m 194 #[.val (.int p0), .val (.long q1), .second, .val (.long q2), .second, .val (.long q3), .second, .val (.long q4), .second, .val (.int 8), .val (.ref bn1), .val (.ref bn383), .unset, .unset] [(.double (FP.i2d q4.toInt32)), (.int 6), (.ref bn383)])) rfl rfl (hb hby at_194)
    have Vwo440 : Arv Z ho440 bn383 kn383 .double (8 : Int32) [(.double (FP.i2d q1.toInt32)), (.double (own_v0_1 q1)), (.double (FP.i2d q2.toInt32)), (.double (own_v0_2 q2)), (.double (FP.i2d q3.toInt32)), (.double (own_v0_3 q3)), (.double (FP.i2d q4.toInt32)), (.double 0)] (.double 0) := Arv.set Aro438 qo438 So438 No438 Ho438 Go438 rfl Wo440 6 rfl (Nat.le_of_ble_eq_true rfl)
    have sz441 : h0.size ≤ ho440.size := Nat.le_trans sz433 (Nat.le_of_eq Wo440.size.symm)
    have Nfo440 := Fr.snoc Xo440 Nfo432 g_bn383
    have F442 := (F434.other Wo440 ne393)
    obtain ⟨clo443, Aro443, qo443, So443, No443, Ho443, Go443⟩ := id F442
    have hi444 := inb_of (j := (7 : Int32)) So443 ⟨by decide, by decide⟩
    have ha445 : _ = some (Value.double (own_v0_4 q4)) := Ho443.at hi444 rfl
    obtain ⟨clo446, Aro446, qo446, So446, No446, Ho446, Go446⟩ := id Vwo440
    have hi447 := inb_of (j := (7 : Int32)) So446 ⟨by decide, by decide⟩
    obtain ⟨To448, ho448, Xo448, eo448, Wo448, sto448⟩ := stD Xo440 hx hZ eo440 Aro446 (j := (7 : Int32)) hi447 (g := (mkF m 211 #[.val (.int p0), .val (.long q1), .second, .val (.long q2), .second, .val (.long q3), .second, .val (.long q4), .second, .val (.int 8), .val (.ref bn1), .val (.ref bn383), .unset, .unset] [(.double (own_v0_4 q4)), (.int 7), (.ref bn383)])) rfl rfl (hb hby at_211)
    have Vwo448 : Arv Z ho448 bn383 kn383 .double (8 : Int32) [(.double (FP.i2d q1.toInt32)), (.double (own_v0_1 q1)), (.double (FP.i2d q2.toInt32)), (.double (own_v0_2 q2)), (.double (FP.i2d q3.toInt32)), (.double (own_v0_3 q3)), (.double (FP.i2d q4.toInt32)), (.double (own_v0_4 q4))] (.double 0) := Arv.set Aro446 qo446 So446 No446 Ho446 Go446 rfl Wo448 7 rfl (Nat.le_of_ble_eq_true rfl)
    have sz449 : h0.size ≤ ho448.size := Nat.le_trans sz441 (Nat.le_of_eq Wo448.size.symm)
    have Nfo448 := Fr.snoc Xo448 Nfo440 g_bn383
    obtain ⟨_, _, ⟨Tk450, Lk450, kk450, nk450⟩, -, Xk450, ⟨Lck450, hQk450, lk450, yk450, zk450⟩, stk450⟩ := Jvm.LawKit.callS Xo448 hx (y := (⟨"com/example/surepath/surepath/TravelTime$Lattices", "halved", "([D)[D"⟩ : MethodName)) hown (mvT hZ (own_W hw 2 rfl)) (mvT hZ (own_W hw 3 rfl)) (mvT hZ (own_W hw 4 rfl)) (mvT hZ (own_W hw 5 rfl)) (by decide) (backOf (W := 0) (own_rmh8 l Z a0 hw [] bn383 kn383 (FP.i2d q1.toInt32) (own_v0_1 q1) (FP.i2d q2.toInt32) (own_v0_2 q2) (FP.i2d q3.toInt32) (own_v0_3 q3) (FP.i2d q4.toInt32) (own_v0_4 q4) ho448 n0 (Nat.le_trans Z0 sz449) Vwo448 (c214_nn32_8 hs35) (c214_nn49_7 hs35) (c214_nn50_7 hs35) (c214_nn67_7 hs35) (c214_nn32_2_7 hs35) (c214_nn49_2_6 hs35) (c214_nn50_2_6 hs35) (c214_nn67_2_6 hs35) (c214_nn32_3_5 hs35) (c214_nn49_3_4 hs35) (c214_nn50_3_4 hs35) (c214_nn67_3_4 hs35) (c214_nn32_4_3 hs35) (c214_nn49_4_2 hs35) (c214_nn50_4_2 hs35) (c214_nn67_4_2 hs35)) hZ (own_W hw 5 rfl) (own_W hw 4 rfl) (by decide) (by decide)) (g := (mkF m 214 #[.val (.int p0), .val (.long q1), .second, .val (.long q2), .second, .val (.long q3), .second, .val (.long q4), .second, .val (.int 8), .val (.ref bn1), .val (.ref bn383), .unset, .unset] [(.ref bn383)])) rfl (by rw [hml]; rfl) (argsL := [(.ref bn383)]) (rest := []) (lenOf own_pd1 rfl) rfl (by show 2 * 0 + _ ≤ _; exact Nat.le_of_eq rfl) (hb hby at_214) (fun _ _ => ⟨rfl, eo448, (by decide : 2 + 1 ≤ _), (by decide : 16 + 5 ≤ _)⟩)
    dsimp only [Pt.U, Pt.locs, Pt.cells, Pt.slots] at Xk450 lk450 yk450 zk450 stk450 hQk450
    replace lk450 := lk450.symm; replace yk450 := yk450.symm; replace zk450 := zk450.symm; subst lk450 yk450 zk450
    obtain ⟨bk450_0, kk450_1, rfl, Nk450q, Kk450, lebk450_0, Qk450_0⟩ := hQk450
    have g_bk450_0 : n0 ≤ bk450_0 := Nat.le_trans (Nat.le_trans Z0 sz449) lebk450_0
    have sz_bk450_0 : h0.size ≤ bk450_0 := Nat.le_trans sz449 lebk450_0
    have sz451 : h0.size ≤ Tk450.heap.size := Nat.le_trans sz449 Kk450.1
    have Nk450 := Fr.app Nfo448 Nk450q
    obtain ⟨clo452, Aro452, qo452, So452, No452, Ho452, Go452⟩ := id Qk450_0
    have hi453 := inb_of (j := (0 : Int32)) So452 ⟨by decide, by decide⟩
    have ha454 : _ = some (Value.double (own_vh8_0 (FP.i2d q1.toInt32) (own_v0_1 q1))) := Ho452.at hi453 rfl
    have F456 := ((F442.other Wo448 ne393).keep Kk450 nin0)
    obtain ⟨_, _, ⟨Tk455, Lk455, kk455, nk455⟩, -, Xk455, ⟨Lck455, hQk455, lk455, yk455, zk455⟩, stk455⟩ := Jvm.LawKit.callS Xk450 hx (y := (⟨"com/example/surepath/surepath/LatticesHalvedPinLaw", "expect", "([DII)D"⟩ : MethodName)) hown (mvT hZ (own_W hw 6 rfl)) (mvT hZ (own_W hw 7 rfl)) (mvT hZ (own_W hw 8 rfl)) (mvT hZ (own_W hw 9 rfl)) (by decide) (backOf (W := 2) (own_rmex02 l Z a0 hw [] bn1 (8 : Int32) kn1 (FP.i2d q1.toInt32) (own_v0_1 q1) (FP.i2d q2.toInt32) (own_v0_2 q2) (FP.i2d q3.toInt32) (own_v0_3 q3) (FP.i2d q4.toInt32) (own_v0_4 q4) Tk450.heap n0 (Nat.le_trans Z0 sz451) F456 (c242_nn13_9 hs35) (by decide) (c242_nn22_9 hs35) (by decide) (c214_nn49_7 hs35) (c242_nn37_9 hs35)) hZ (own_W hw 9 rfl) (own_W hw 8 rfl) (by decide) (by decide)) (g := (mkF m 242 #[.val (.int p0), .val (.long q1), .second, .val (.long q2), .second, .val (.long q3), .second, .val (.long q4), .second, .val (.int 8), .val (.ref bn1), .val (.ref bn383), .val (.ref bk450_0), .unset] [(.int 0), (.int 8), (.ref bn1), (.double (own_vh8_0 (FP.i2d q1.toInt32) (own_v0_1 q1)))])) rfl (by rw [hml]; rfl) (argsL := [(.ref bn1), (.int 8), (.int 0)]) (rest := [(.double (own_vh8_0 (FP.i2d q1.toInt32) (own_v0_1 q1)))]) (lenOf own_pd0 rfl) rfl (by show 2 * 0 + _ ≤ _; exact Nat.le_of_eq rfl) (hb hby at_242) (fun _ _ => ⟨rfl, rfl, (by decide : 3 + 0 ≤ _), (by decide : 21 + 0 ≤ _)⟩)
    dsimp only [Pt.U, Pt.locs, Pt.cells, Pt.slots] at Xk455 lk455 yk455 zk455 stk455 hQk455
    replace lk455 := lk455.symm; replace yk455 := yk455.symm; replace zk455 := zk455.symm; subst lk455 yk455 zk455
    obtain ⟨rfl, Nk455q, ek455⟩ := hQk455
    have Nk455 := Fr.app Nk450 Nk455q
    have hi457 := inb_of (j := (1 : Int32)) So452 ⟨by decide, by decide⟩
    have ha458 : _ = some (Value.double (own_vh8_3 (own_v0_1 q1) (FP.i2d q2.toInt32) (own_v0_2 q2))) := Ho452.at hi457 rfl
    obtain ⟨_, _, ⟨Tk459, Lk459, kk459, nk459⟩, -, Xk459, ⟨Lck459, hQk459, lk459, yk459, zk459⟩, stk459⟩ := Jvm.LawKit.callS Xk455 hx (y := (⟨"com/example/surepath/surepath/LatticesHalvedPinLaw", "expect", "([DII)D"⟩ : MethodName)) hown (mvT hZ (own_W hw 6 rfl)) (mvT hZ (own_W hw 7 rfl)) (mvT hZ (own_W hw 8 rfl)) (mvT hZ (own_W hw 9 rfl)) (by decide) (backOf (W := 2) (own_rmex14 l Z a0 hw [] bn1 (8 : Int32) kn1 (FP.i2d q1.toInt32) (own_v0_1 q1) (FP.i2d q2.toInt32) (own_v0_2 q2) (FP.i2d q3.toInt32) (own_v0_3 q3) (FP.i2d q4.toInt32) (own_v0_4 q4) Tk450.heap n0 (Nat.le_trans Z0 sz451) F456 (by decide) (c214_nn49_7 hs35) (by decide) (c277_nn22_7 hs35) (by decide) (c214_nn49_2_6 hs35) (c277_nn37_7 hs35)) hZ (own_W hw 9 rfl) (own_W hw 8 rfl) (by decide) (by decide)) (g := (mkF m 277 #[.val (.int p0), .val (.long q1), .second, .val (.long q2), .second, .val (.long q3), .second, .val (.long q4), .second, .val (.int 8), .val (.ref bn1), .val (.ref bn383), .val (.ref bk450_0), .val (.int 1)] [(.int 1), (.int 8), (.ref bn1), (.double (own_vh8_3 (own_v0_1 q1) (FP.i2d q2.toInt32) (own_v0_2 q2)))])) rfl (by rw [hml]; rfl) (argsL := [(.ref bn1), (.int 8), (.int 1)]) (rest := [(.double (own_vh8_3 (own_v0_1 q1) (FP.i2d q2.toInt32) (own_v0_2 q2)))]) (lenOf own_pd0 rfl) rfl (by show 2 * 0 + _ ≤ _; exact Nat.le_of_eq rfl) (hb hby at_277) (fun _ _ => ⟨rfl, ek455, (by decide : 3 + 0 ≤ _), (by decide : 21 + 0 ≤ _)⟩)
    dsimp only [Pt.U, Pt.locs, Pt.cells, Pt.slots] at Xk459 lk459 yk459 zk459 stk459 hQk459
    replace lk459 := lk459.symm; replace yk459 := yk459.symm; replace zk459 := zk459.symm; subst lk459 yk459 zk459
    obtain ⟨rfl, Nk459q, ek459⟩ := hQk459
    have Nk459 := Fr.app Nk455 Nk459q
    have hi460 := inb_of (j := (2 : Int32)) So452 ⟨by decide, by decide⟩
    have ha461 : _ = some (Value.double (own_vh8_6 (own_v0_2 q2) (FP.i2d q3.toInt32) (own_v0_3 q3))) := Ho452.at hi460 rfl
    obtain ⟨_, _, ⟨Tk462, Lk462, kk462, nk462⟩, -, Xk462, ⟨Lck462, hQk462, lk462, yk462, zk462⟩, stk462⟩ := Jvm.LawKit.callS Xk459 hx (y := (⟨"com/example/surepath/surepath/LatticesHalvedPinLaw", "expect", "([DII)D"⟩ : MethodName)) hown (mvT hZ (own_W hw 6 rfl)) (mvT hZ (own_W hw 7 rfl)) (mvT hZ (own_W hw 8 rfl)) (mvT hZ (own_W hw 9 rfl)) (by decide) (backOf (W := 2) (own_rmex26 l Z a0 hw [] bn1 (8 : Int32) kn1 (FP.i2d q1.toInt32) (own_v0_1 q1) (FP.i2d q2.toInt32) (own_v0_2 q2) (FP.i2d q3.toInt32) (own_v0_3 q3) (FP.i2d q4.toInt32) (own_v0_4 q4) Tk450.heap n0 (Nat.le_trans Z0 sz451) F456 (by decide) (c214_nn49_2_6 hs35) (by decide) (c312_nn22_5 hs35) (by decide) (c214_nn49_3_4 hs35) (c312_nn37_5 hs35)) hZ (own_W hw 9 rfl) (own_W hw 8 rfl) (by decide) (by decide)) (g := (mkF m 312 #[.val (.int p0), .val (.long q1), .second, .val (.long q2), .second, .val (.long q3), .second, .val (.long q4), .second, .val (.int 8), .val (.ref bn1), .val (.ref bn383), .val (.ref bk450_0), .val (.int 1)] [(.int 2), (.int 8), (.ref bn1), (.double (own_vh8_6 (own_v0_2 q2) (FP.i2d q3.toInt32) (own_v0_3 q3)))])) rfl (by rw [hml]; rfl) (argsL := [(.ref bn1), (.int 8), (.int 2)]) (rest := [(.double (own_vh8_6 (own_v0_2 q2) (FP.i2d q3.toInt32) (own_v0_3 q3)))]) (lenOf own_pd0 rfl) rfl (by show 2 * 0 + _ ≤ _; exact Nat.le_of_eq rfl) (hb hby at_312) (fun _ _ => ⟨rfl, ek459, (by decide : 3 + 0 ≤ _), (by decide : 21 + 0 ≤ _)⟩)
    dsimp only [Pt.U, Pt.locs, Pt.cells, Pt.slots] at Xk462 lk462 yk462 zk462 stk462 hQk462
    replace lk462 := lk462.symm; replace yk462 := yk462.symm; replace zk462 := zk462.symm; subst lk462 yk462 zk462
    obtain ⟨rfl, Nk462q, ek462⟩ := hQk462
    have Nk462 := Fr.app Nk459 Nk462q
    have hi463 := inb_of (j := (3 : Int32)) So452 ⟨by decide, by decide⟩
    have ha464 : _ = some (Value.double (own_vh8_9 (own_v0_3 q3) (FP.i2d q4.toInt32) (own_v0_4 q4))) := Ho452.at hi463 rfl
    obtain ⟨_, _, ⟨Tk465, Lk465, kk465, nk465⟩, -, Xk465, ⟨Lck465, hQk465, lk465, yk465, zk465⟩, stk465⟩ := Jvm.LawKit.callS Xk462 hx (y := (⟨"com/example/surepath/surepath/LatticesHalvedPinLaw", "expect", "([DII)D"⟩ : MethodName)) hown (mvT hZ (own_W hw 6 rfl)) (mvT hZ (own_W hw 7 rfl)) (mvT hZ (own_W hw 8 rfl)) (mvT hZ (own_W hw 9 rfl)) (by decide) (backOf (W := 2) (own_rmex38 l Z a0 hw [] bn1 (8 : Int32) kn1 (FP.i2d q1.toInt32) (own_v0_1 q1) (FP.i2d q2.toInt32) (own_v0_2 q2) (FP.i2d q3.toInt32) (own_v0_3 q3) (FP.i2d q4.toInt32) (own_v0_4 q4) Tk450.heap n0 (Nat.le_trans Z0 sz451) F456 (by decide) (c214_nn49_3_4 hs35) (by decide) (c347_nn22_3 hs35) (by decide) (c214_nn49_4_2 hs35) (c347_nn37_3 hs35)) hZ (own_W hw 9 rfl) (own_W hw 8 rfl) (by decide) (by decide)) (g := (mkF m 347 #[.val (.int p0), .val (.long q1), .second, .val (.long q2), .second, .val (.long q3), .second, .val (.long q4), .second, .val (.int 8), .val (.ref bn1), .val (.ref bn383), .val (.ref bk450_0), .val (.int 1)] [(.int 3), (.int 8), (.ref bn1), (.double (own_vh8_9 (own_v0_3 q3) (FP.i2d q4.toInt32) (own_v0_4 q4)))])) rfl (by rw [hml]; rfl) (argsL := [(.ref bn1), (.int 8), (.int 3)]) (rest := [(.double (own_vh8_9 (own_v0_3 q3) (FP.i2d q4.toInt32) (own_v0_4 q4)))]) (lenOf own_pd0 rfl) rfl (by show 2 * 0 + _ ≤ _; exact Nat.le_of_eq rfl) (hb hby at_347) (fun _ _ => ⟨rfl, ek462, (by decide : 3 + 0 ≤ _), (by decide : 21 + 0 ≤ _)⟩)
    dsimp only [Pt.U, Pt.locs, Pt.cells, Pt.slots] at Xk465 lk465 yk465 zk465 stk465 hQk465
    replace lk465 := lk465.symm; replace yk465 := yk465.symm; replace zk465 := zk465.symm; subst lk465 yk465 zk465
    obtain ⟨rfl, Nk465q, ek465⟩ := hQk465
    have Nk465 := Fr.app Nk462 Nk465q
    have hi466 := inb_of (j := (4 : Int32)) So452 ⟨by decide, by decide⟩
    have ha467 : _ = some (Value.double (own_vh8_10 (own_v0_4 q4))) := Ho452.at hi466 rfl
    obtain ⟨_, _, ⟨Tk468, Lk468, kk468, nk468⟩, -, Xk468, ⟨Lck468, hQk468, lk468, yk468, zk468⟩, stk468⟩ := Jvm.LawKit.callS Xk465 hx (y := (⟨"com/example/surepath/surepath/LatticesHalvedPinLaw", "expect", "([DII)D"⟩ : MethodName)) hown (mvT hZ (own_W hw 6 rfl)) (mvT hZ (own_W hw 7 rfl)) (mvT hZ (own_W hw 8 rfl)) (mvT hZ (own_W hw 9 rfl)) (by decide) (backOf (W := 2) (own_rmex48 l Z a0 hw [] bn1 (8 : Int32) kn1 (FP.i2d q1.toInt32) (own_v0_1 q1) (FP.i2d q2.toInt32) (own_v0_2 q2) (FP.i2d q3.toInt32) (own_v0_3 q3) (FP.i2d q4.toInt32) (own_v0_4 q4) Tk450.heap n0 (Nat.le_trans Z0 sz451) F456 (by decide) (c214_nn49_4_2 hs35) (by decide) (c382_nn22 hs35) (by decide) (c242_nn13_9 hs35) (c382_nn37 hs35)) hZ (own_W hw 9 rfl) (own_W hw 8 rfl) (by decide) (by decide)) (g := (mkF m 382 #[.val (.int p0), .val (.long q1), .second, .val (.long q2), .second, .val (.long q3), .second, .val (.long q4), .second, .val (.int 8), .val (.ref bn1), .val (.ref bn383), .val (.ref bk450_0), .val (.int 1)] [(.int 4), (.int 8), (.ref bn1), (.double (own_vh8_10 (own_v0_4 q4)))])) rfl (by rw [hml]; rfl) (argsL := [(.ref bn1), (.int 8), (.int 4)]) (rest := [(.double (own_vh8_10 (own_v0_4 q4)))]) (lenOf own_pd0 rfl) rfl (by show 2 * 0 + _ ≤ _; exact Nat.le_of_eq rfl) (hb hby at_382) (fun _ _ => ⟨rfl, ek465, (by decide : 3 + 0 ≤ _), (by decide : 21 + 0 ≤ _)⟩)
    dsimp only [Pt.U, Pt.locs, Pt.cells, Pt.slots] at Xk468 lk468 yk468 zk468 stk468 hQk468
    replace lk468 := lk468.symm; replace yk468 := yk468.symm; replace zk468 := zk468.symm; subst lk468 yk468 zk468
    obtain ⟨rfl, Nk468q, ek468⟩ := hQk468
    have Nk468 := Fr.app Nk465 Nk468q
    obtain ⟨fs, hr, hrun, hended, hW, hsame⟩ := Xk468.leave (v := some (.int 1)) (fun h => by rw [Bd.returns] at h; cases h)
    refine ⟨_, _, pre0 _ (Ks35 _ (K382 _ (?_))), hrun, hended, _, _, rfl, ?_, ⟨_, rfl⟩, hW, hsame.mono (by decide) (by decide)⟩
    · show Steps p.tables e below (To33.setTop (mkF m 89 #[.val (.int p0), .val (.long q1), .second, .val (.long q2), .second, .val (.long q3), .second, .val (.long q4), .second, .val (.int 8), .val (.ref bn1), .unset, .unset, .unset] [])) _
      refine XS.iload Xo33.here hx rfl (hb hby at_89) rfl ?_
      refine stn383 _ ?_
      refine XS.astore Xn383.here hx rfl (hb hby at_93) rfl rfl (l' := #[.val (.int p0), .val (.long q1), .second, .val (.long q2), .second, .val (.long q3), .second, .val (.long q4), .second, .val (.int 8), .val (.ref bn1), .val (.ref bn383), .unset, .unset]) rfl ?_
      refine XS.iload Xn383.here hx rfl (hb hby at_95) rfl ?_
      refine XS.ifNo Xn383.here hx rfl (hb hby at_97) rfl (XT.i0_le_f (by decide : (0 : Int32) < (8 : Int32))) ?_
      refine XS.aload Xn383.here hx rfl (hb hby at_100) rfl rfl ?_
      refine XS.iconst Xn383.here hx rfl (hb hby at_102) ?_
      refine XS.aload Xn383.here hx rfl (hb hby at_103) rfl rfl ?_
      refine XS.iconst Xn383.here hx rfl (hb hby at_105) ?_
      refine Xn383.daload hx (j := (0 : Int32)) (v := (.double (FP.i2d q1.toInt32))) (by rw [en383]; exact Aro386.1) (State.isArrayOf_alike hZ.alike Aro386.2.1) Aro386.2.2 hi387 ha388 (g := (mkF m 106 #[.val (.int p0), .val (.long q1), .second, .val (.long q2), .second, .val (.long q3), .second, .val (.long q4), .second, .val (.int 8), .val (.ref bn1), .val (.ref bn383), .unset, .unset] [(.int 0), (.ref bn1), (.int 0), (.ref bn383)])) rfl rfl (hb hby at_106) _ ?_
      show Steps p.tables e below (Tn383.setTop (mkF m 107 #[.val (.int p0), .val (.long q1), .second, .val (.long q2), .second, .val (.long q3), .second, .val (.long q4), .second, .val (.int 8), .val (.ref bn1), .val (.ref bn383), .unset, .unset] [(.double (FP.i2d q1.toInt32)), (.int 0), (.ref bn383)])) _
      refine sto391 _ ?_
      refine XS.iload Xo391.here hx rfl (hb hby at_108) rfl ?_
      refine XS.iconst Xo391.here hx rfl (hb hby at_110) ?_
      refine XS.icmpNo Xo391.here hx rfl (hb hby at_111) rfl (XT.ii_le_f (by decide : (1 : Int32) < (8 : Int32))) ?_
      refine XS.aload Xo391.here hx rfl (hb hby at_114) rfl rfl ?_
      refine XS.iconst Xo391.here hx rfl (hb hby at_116) ?_
      refine XS.aload Xo391.here hx rfl (hb hby at_117) rfl rfl ?_
      refine XS.iconst Xo391.here hx rfl (hb hby at_119) ?_
      refine Xo391.daload hx (j := (1 : Int32)) (v := (.double (own_v0_1 q1))) (by rw [eo391]; exact Aro395.1) (State.isArrayOf_alike hZ.alike Aro395.2.1) Aro395.2.2 hi396 ha397 (g := (mkF m 120 #[.val (.int p0), .val (.long q1), .second, .val (.long q2), .second, .val (.long q3), .second, .val (.long q4), .second, .val (.int 8), .val (.ref bn1), .val (.ref bn383), .unset, .unset] [(.int 1), (.ref bn1), (.int 1), (.ref bn383)])) rfl rfl (hb hby at_120) _ ?_
      show Steps p.tables e below (To391.setTop (mkF m 121 #[.val (.int p0), .val (.long q1), .second, .val (.long q2), .second, .val (.long q3), .second, .val (.long q4), .second, .val (.int 8), .val (.ref bn1), .val (.ref bn383), .unset, .unset] [(.double (own_v0_1 q1)), (.int 1), (.ref bn383)])) _
      refine sto400 _ ?_
      refine XS.iload Xo400.here hx rfl (hb hby at_122) rfl ?_
      refine XS.iconst Xo400.here hx rfl (hb hby at_124) ?_
      refine XS.icmpNo Xo400.here hx rfl (hb hby at_125) rfl (XT.ii_le_f (by decide : (2 : Int32) < (8 : Int32))) ?_
      refine XS.aload Xo400.here hx rfl (hb hby at_128) rfl rfl ?_
      refine XS.iconst Xo400.here hx rfl (hb hby at_130) ?_
      refine XS.aload Xo400.here hx rfl (hb hby at_131) rfl rfl ?_
      refine XS.iconst Xo400.here hx rfl (hb hby at_133) ?_
      refine Xo400.daload hx (j := (2 : Int32)) (v := (.double (FP.i2d q2.toInt32))) (by rw [eo400]; exact Aro403.1) (State.isArrayOf_alike hZ.alike Aro403.2.1) Aro403.2.2 hi404 ha405 (g := (mkF m 134 #[.val (.int p0), .val (.long q1), .second, .val (.long q2), .second, .val (.long q3), .second, .val (.long q4), .second, .val (.int 8), .val (.ref bn1), .val (.ref bn383), .unset, .unset] [(.int 2), (.ref bn1), (.int 2), (.ref bn383)])) rfl rfl (hb hby at_134) _ ?_
      show Steps p.tables e below (To400.setTop (mkF m 135 #[.val (.int p0), .val (.long q1), .second, .val (.long q2), .second, .val (.long q3), .second, .val (.long q4), .second, .val (.int 8), .val (.ref bn1), .val (.ref bn383), .unset, .unset] [(.double (FP.i2d q2.toInt32)), (.int 2), (.ref bn383)])) _
      refine sto408 _ ?_
      refine XS.iload Xo408.here hx rfl (hb hby at_136) rfl ?_
      refine XS.iconst Xo408.here hx rfl (hb hby at_138) ?_
      refine XS.icmpNo Xo408.here hx rfl (hb hby at_139) rfl (XT.ii_le_f (by decide : (3 : Int32) < (8 : Int32))) ?_
      refine XS.aload Xo408.here hx rfl (hb hby at_142) rfl rfl ?_
      refine XS.iconst Xo408.here hx rfl (hb hby at_144) ?_
      refine XS.aload Xo408.here hx rfl (hb hby at_145) rfl rfl ?_
      refine XS.iconst Xo408.here hx rfl (hb hby at_147) ?_
      refine Xo408.daload hx (j := (3 : Int32)) (v := (.double (own_v0_2 q2))) (by rw [eo408]; exact Aro411.1) (State.isArrayOf_alike hZ.alike Aro411.2.1) Aro411.2.2 hi412 ha413 (g := (mkF m 148 #[.val (.int p0), .val (.long q1), .second, .val (.long q2), .second, .val (.long q3), .second, .val (.long q4), .second, .val (.int 8), .val (.ref bn1), .val (.ref bn383), .unset, .unset] [(.int 3), (.ref bn1), (.int 3), (.ref bn383)])) rfl rfl (hb hby at_148) _ ?_
      show Steps p.tables e below (To408.setTop (mkF m 149 #[.val (.int p0), .val (.long q1), .second, .val (.long q2), .second, .val (.long q3), .second, .val (.long q4), .second, .val (.int 8), .val (.ref bn1), .val (.ref bn383), .unset, .unset] [(.double (own_v0_2 q2)), (.int 3), (.ref bn383)])) _
      refine sto416 _ ?_
      refine XS.iload Xo416.here hx rfl (hb hby at_150) rfl ?_
      refine XS.iconst Xo416.here hx rfl (hb hby at_152) ?_
      refine XS.icmpNo Xo416.here hx rfl (hb hby at_153) rfl (XT.ii_le_f (by decide : (4 : Int32) < (8 : Int32))) ?_
      refine XS.aload Xo416.here hx rfl (hb hby at_156) rfl rfl ?_
      refine XS.iconst Xo416.here hx rfl (hb hby at_158) ?_
      refine XS.aload Xo416.here hx rfl (hb hby at_159) rfl rfl ?_
      refine XS.iconst Xo416.here hx rfl (hb hby at_161) ?_
      refine Xo416.daload hx (j := (4 : Int32)) (v := (.double (FP.i2d q3.toInt32))) (by rw [eo416]; exact Aro419.1) (State.isArrayOf_alike hZ.alike Aro419.2.1) Aro419.2.2 hi420 ha421 (g := (mkF m 162 #[.val (.int p0), .val (.long q1), .second, .val (.long q2), .second, .val (.long q3), .second, .val (.long q4), .second, .val (.int 8), .val (.ref bn1), .val (.ref bn383), .unset, .unset] [(.int 4), (.ref bn1), (.int 4), (.ref bn383)])) rfl rfl (hb hby at_162) _ ?_
      show Steps p.tables e below (To416.setTop (mkF m 163 #[.val (.int p0), .val (.long q1), .second, .val (.long q2), .second, .val (.long q3), .second, .val (.long q4), .second, .val (.int 8), .val (.ref bn1), .val (.ref bn383), .unset, .unset] [(.double (FP.i2d q3.toInt32)), (.int 4), (.ref bn383)])) _
      refine sto424 _ ?_
      refine XS.iload Xo424.here hx rfl (hb hby at_164) rfl ?_
      refine XS.iconst Xo424.here hx rfl (hb hby at_166) ?_
      refine XS.icmpNo Xo424.here hx rfl (hb hby at_167) rfl (XT.ii_le_f (by decide : (5 : Int32) < (8 : Int32))) ?_
      refine XS.aload Xo424.here hx rfl (hb hby at_170) rfl rfl ?_
      refine XS.iconst Xo424.here hx rfl (hb hby at_172) ?_
      refine XS.aload Xo424.here hx rfl (hb hby at_173) rfl rfl ?_
      refine XS.iconst Xo424.here hx rfl (hb hby at_175) ?_
      refine Xo424.daload hx (j := (5 : Int32)) (v := (.double (own_v0_3 q3))) (by rw [eo424]; exact Aro427.1) (State.isArrayOf_alike hZ.alike Aro427.2.1) Aro427.2.2 hi428 ha429 (g := (mkF m 176 #[.val (.int p0), .val (.long q1), .second, .val (.long q2), .second, .val (.long q3), .second, .val (.long q4), .second, .val (.int 8), .val (.ref bn1), .val (.ref bn383), .unset, .unset] [(.int 5), (.ref bn1), (.int 5), (.ref bn383)])) rfl rfl (hb hby at_176) _ ?_
      show Steps p.tables e below (To424.setTop (mkF m 177 #[.val (.int p0), .val (.long q1), .second, .val (.long q2), .second, .val (.long q3), .second, .val (.long q4), .second, .val (.int 8), .val (.ref bn1), .val (.ref bn383), .unset, .unset] [(.double (own_v0_3 q3)), (.int 5), (.ref bn383)])) _
      refine sto432 _ ?_
      refine XS.iload Xo432.here hx rfl (hb hby at_178) rfl ?_
      refine XS.bipush Xo432.here hx rfl (hb hby at_180) ?_
      refine XS.icmpNo Xo432.here hx rfl (hb hby at_182) rfl (XT.ii_le_f (by decide : (6 : Int32) < (8 : Int32))) ?_
      refine XS.aload Xo432.here hx rfl (hb hby at_185) rfl rfl ?_
      refine XS.bipush Xo432.here hx rfl (hb hby at_187) ?_
      refine XS.aload Xo432.here hx rfl (hb hby at_189) rfl rfl ?_
      refine XS.bipush Xo432.here hx rfl (hb hby at_191) ?_
      refine Xo432.daload hx (j := (6 : Int32)) (v := (.double (FP.i2d q4.toInt32))) (by rw [eo432]; exact Aro435.1) (State.isArrayOf_alike hZ.alike Aro435.2.1) Aro435.2.2 hi436 ha437 (g := (mkF m 193 #[.val (.int p0), .val (.long q1), .second, .val (.long q2), .second, .val (.long q3), .second, .val (.long q4), .second, .val (.int 8), .val (.ref bn1), .val (.ref bn383), .unset, .unset] [(.int 6), (.ref bn1), (.int 6), (.ref bn383)])) rfl rfl (hb hby at_193) _ ?_
      show Steps p.tables e below (To432.setTop (mkF m 194 #[.val (.int p0), .val (.long q1), .second, .val (.long q2), .second, .val (.long q3), .second, .val (.long q4), .second, .val (.int 8), .val (.ref bn1), .val (.ref bn383), .unset, .unset] [(.double (FP.i2d q4.toInt32)), (.int 6), (.ref bn383)])) _
      refine sto440 _ ?_
      refine XS.iload Xo440.here hx rfl (hb hby at_195) rfl ?_
      refine XS.bipush Xo440.here hx rfl (hb hby at_197) ?_
      refine XS.icmpNo Xo440.here hx rfl (hb hby at_199) rfl (XT.ii_le_f (by decide : (7 : Int32) < (8 : Int32))) ?_
      refine XS.aload Xo440.here hx rfl (hb hby at_202) rfl rfl ?_
      refine XS.bipush Xo440.here hx rfl (hb hby at_204) ?_
      refine XS.aload Xo440.here hx rfl (hb hby at_206) rfl rfl ?_
      refine XS.bipush Xo440.here hx rfl (hb hby at_208) ?_
      refine Xo440.daload hx (j := (7 : Int32)) (v := (.double (own_v0_4 q4))) (by rw [eo440]; exact Aro443.1) (State.isArrayOf_alike hZ.alike Aro443.2.1) Aro443.2.2 hi444 ha445 (g := (mkF m 210 #[.val (.int p0), .val (.long q1), .second, .val (.long q2), .second, .val (.long q3), .second, .val (.long q4), .second, .val (.int 8), .val (.ref bn1), .val (.ref bn383), .unset, .unset] [(.int 7), (.ref bn1), (.int 7), (.ref bn383)])) rfl rfl (hb hby at_210) _ ?_
      show Steps p.tables e below (To440.setTop (mkF m 211 #[.val (.int p0), .val (.long q1), .second, .val (.long q2), .second, .val (.long q3), .second, .val (.long q4), .second, .val (.int 8), .val (.ref bn1), .val (.ref bn383), .unset, .unset] [(.double (own_v0_4 q4)), (.int 7), (.ref bn383)])) _
      refine sto448 _ ?_
      refine XS.aload Xo448.here hx rfl (hb hby at_212) rfl rfl ?_
      refine stk450 _ ?_
      show Steps p.tables e below (Tk450.setTop (mkF m 217 #[.val (.int p0), .val (.long q1), .second, .val (.long q2), .second, .val (.long q3), .second, .val (.long q4), .second, .val (.int 8), .val (.ref bn1), .val (.ref bn383), .unset, .unset] [(.ref bk450_0)])) _
      refine XS.astore Xk450.here hx rfl (hb hby at_217) rfl rfl (l' := #[.val (.int p0), .val (.long q1), .second, .val (.long q2), .second, .val (.long q3), .second, .val (.long q4), .second, .val (.int 8), .val (.ref bn1), .val (.ref bn383), .val (.ref bk450_0), .unset]) rfl ?_
      refine XS.aload Xk450.here hx rfl (hb hby at_219) rfl rfl ?_
      refine Xk450.arraylength hx Aro452.1 (State.isArrayOf_alike hZ.alike Aro452.2.1) (g := (mkF m 221 #[.val (.int p0), .val (.long q1), .second, .val (.long q2), .second, .val (.long q3), .second, .val (.long q4), .second, .val (.int 8), .val (.ref bn1), .val (.ref bn383), .val (.ref bk450_0), .unset] [(.ref bk450_0)])) rfl rfl (hb hby at_221) _ ?_
      rw [len_of So452 No452]
      show Steps p.tables e below (Tk450.setTop (mkF m 222 #[.val (.int p0), .val (.long q1), .second, .val (.long q2), .second, .val (.long q3), .second, .val (.long q4), .second, .val (.int 8), .val (.ref bn1), .val (.ref bn383), .val (.ref bk450_0), .unset] [(.int 5)])) _
      refine XS.iload Xk450.here hx rfl (hb hby at_222) rfl ?_
      refine XS.iconst Xk450.here hx rfl (hb hby at_224) ?_
      refine XS.idiv Xk450.here hx rfl (hb hby at_225) rfl (by decide) ?_
      show Steps p.tables e below (Tk450.setTop (mkF m 226 #[.val (.int p0), .val (.long q1), .second, .val (.long q2), .second, .val (.long q3), .second, .val (.long q4), .second, .val (.int 8), .val (.ref bn1), .val (.ref bn383), .val (.ref bk450_0), .unset] [(.int 4), (.int 5)])) _
      refine XS.iconst Xk450.here hx rfl (hb hby at_226) ?_
      refine XS.iadd Xk450.here hx rfl (hb hby at_227) rfl ?_
      refine XS.icmpYes Xk450.here hx rfl (pc0 := 228) (pc' := 233) rfl (hb hby at_228) rfl (XT.ii_eq_t (by decide : (5 : Int32) = (5 : Int32))) (by decide) (by decide) ?_
      refine XS.aload Xk450.here hx rfl (hb hby at_233) rfl rfl ?_
      refine XS.iconst Xk450.here hx rfl (hb hby at_235) ?_
      refine Xk450.daload hx (j := (0 : Int32)) (v := (.double (own_vh8_0 (FP.i2d q1.toInt32) (own_v0_1 q1)))) Aro452.1 (State.isArrayOf_alike hZ.alike Aro452.2.1) Aro452.2.2 hi453 ha454 (g := (mkF m 236 #[.val (.int p0), .val (.long q1), .second, .val (.long q2), .second, .val (.long q3), .second, .val (.long q4), .second, .val (.int 8), .val (.ref bn1), .val (.ref bn383), .val (.ref bk450_0), .unset] [(.int 0), (.ref bk450_0)])) rfl rfl (hb hby at_236) _ ?_
      show Steps p.tables e below (Tk450.setTop (mkF m 237 #[.val (.int p0), .val (.long q1), .second, .val (.long q2), .second, .val (.long q3), .second, .val (.long q4), .second, .val (.int 8), .val (.ref bn1), .val (.ref bn383), .val (.ref bk450_0), .unset] [(.double (own_vh8_0 (FP.i2d q1.toInt32) (own_v0_1 q1)))])) _
      refine XS.aload Xk450.here hx rfl (hb hby at_237) rfl rfl ?_
      refine XS.iload Xk450.here hx rfl (hb hby at_239) rfl ?_
      refine XS.iconst Xk450.here hx rfl (hb hby at_241) ?_
      refine stk455 _ ?_
      show Steps p.tables e below (Tk455.setTop (mkF m 245 #[.val (.int p0), .val (.long q1), .second, .val (.long q2), .second, .val (.long q3), .second, .val (.long q4), .second, .val (.int 8), .val (.ref bn1), .val (.ref bn383), .val (.ref bk450_0), .unset] [(.double (own_rex02_0 (FP.i2d q1.toInt32) (own_v0_1 q1))), (.double (own_vh8_0 (FP.i2d q1.toInt32) (own_v0_1 q1)))])) _
      refine XS.dcmpS Xk455.here hx rfl (hb hby at_245) rfl rfl ?_
      refine XS.ifNo Xk455.here hx rfl (hb hby at_246) rfl (XT.i0_ne_f (hc246_9 hs35)) ?_
      refine XS.iconst Xk455.here hx rfl (hb hby at_249) ?_
      refine XS.goto Xk455.here hx rfl (pc0 := 250) (pc' := 254) rfl (hb hby at_250) (by decide) (by decide) ?_
      refine XS.istore Xk455.here hx rfl (hb hby at_254) rfl (l' := #[.val (.int p0), .val (.long q1), .second, .val (.long q2), .second, .val (.long q3), .second, .val (.long q4), .second, .val (.int 8), .val (.ref bn1), .val (.ref bn383), .val (.ref bk450_0), .val (.int 1)]) rfl ?_
      refine XS.aload Xk455.here hx rfl (hb hby at_256) rfl rfl ?_
      refine Xk455.arraylength hx (by rw [ek455]; exact Aro452.1) (State.isArrayOf_alike hZ.alike Aro452.2.1) (g := (mkF m 258 #[.val (.int p0), .val (.long q1), .second, .val (.long q2), .second, .val (.long q3), .second, .val (.long q4), .second, .val (.int 8), .val (.ref bn1), .val (.ref bn383), .val (.ref bk450_0), .val (.int 1)] [(.ref bk450_0)])) rfl rfl (hb hby at_258) _ ?_
      rw [len_of So452 No452]
      show Steps p.tables e below (Tk455.setTop (mkF m 259 #[.val (.int p0), .val (.long q1), .second, .val (.long q2), .second, .val (.long q3), .second, .val (.long q4), .second, .val (.int 8), .val (.ref bn1), .val (.ref bn383), .val (.ref bk450_0), .val (.int 1)] [(.int 5)])) _
      refine XS.iconst Xk455.here hx rfl (hb hby at_259) ?_
      refine XS.icmpNo Xk455.here hx rfl (hb hby at_260) rfl (XT.ii_le_f (by decide : (1 : Int32) < (5 : Int32))) ?_
      refine XS.iload Xk455.here hx rfl (hb hby at_263) rfl ?_
      refine XS.ifNo Xk455.here hx rfl (hb hby at_265) rfl (XT.i0_eq_f (by decide : ¬ ((1 : Int32) = (0 : Int32)))) ?_
      refine XS.aload Xk455.here hx rfl (hb hby at_268) rfl rfl ?_
      refine XS.iconst Xk455.here hx rfl (hb hby at_270) ?_
      refine Xk455.daload hx (j := (1 : Int32)) (v := (.double (own_vh8_3 (own_v0_1 q1) (FP.i2d q2.toInt32) (own_v0_2 q2)))) (by rw [ek455]; exact Aro452.1) (State.isArrayOf_alike hZ.alike Aro452.2.1) Aro452.2.2 hi457 ha458 (g := (mkF m 271 #[.val (.int p0), .val (.long q1), .second, .val (.long q2), .second, .val (.long q3), .second, .val (.long q4), .second, .val (.int 8), .val (.ref bn1), .val (.ref bn383), .val (.ref bk450_0), .val (.int 1)] [(.int 1), (.ref bk450_0)])) rfl rfl (hb hby at_271) _ ?_
      show Steps p.tables e below (Tk455.setTop (mkF m 272 #[.val (.int p0), .val (.long q1), .second, .val (.long q2), .second, .val (.long q3), .second, .val (.long q4), .second, .val (.int 8), .val (.ref bn1), .val (.ref bn383), .val (.ref bk450_0), .val (.int 1)] [(.double (own_vh8_3 (own_v0_1 q1) (FP.i2d q2.toInt32) (own_v0_2 q2)))])) _
      refine XS.aload Xk455.here hx rfl (hb hby at_272) rfl rfl ?_
      refine XS.iload Xk455.here hx rfl (hb hby at_274) rfl ?_
      refine XS.iconst Xk455.here hx rfl (hb hby at_276) ?_
      refine stk459 _ ?_
      show Steps p.tables e below (Tk459.setTop (mkF m 280 #[.val (.int p0), .val (.long q1), .second, .val (.long q2), .second, .val (.long q3), .second, .val (.long q4), .second, .val (.int 8), .val (.ref bn1), .val (.ref bn383), .val (.ref bk450_0), .val (.int 1)] [(.double (own_rex14_0 (own_v0_1 q1) (FP.i2d q2.toInt32) (own_v0_2 q2))), (.double (own_vh8_3 (own_v0_1 q1) (FP.i2d q2.toInt32) (own_v0_2 q2)))])) _
      refine XS.dcmpS Xk459.here hx rfl (hb hby at_280) rfl rfl ?_
      refine XS.ifNo Xk459.here hx rfl (hb hby at_281) rfl (XT.i0_ne_f (hc281_7 hs35)) ?_
      refine XS.iconst Xk459.here hx rfl (hb hby at_284) ?_
      refine XS.goto Xk459.here hx rfl (pc0 := 285) (pc' := 289) rfl (hb hby at_285) (by decide) (by decide) ?_
      refine XS.istore Xk459.here hx rfl (hb hby at_289) rfl (l' := #[.val (.int p0), .val (.long q1), .second, .val (.long q2), .second, .val (.long q3), .second, .val (.long q4), .second, .val (.int 8), .val (.ref bn1), .val (.ref bn383), .val (.ref bk450_0), .val (.int 1)]) rfl ?_
      refine XS.aload Xk459.here hx rfl (hb hby at_291) rfl rfl ?_
      refine Xk459.arraylength hx (by rw [ek459]; exact Aro452.1) (State.isArrayOf_alike hZ.alike Aro452.2.1) (g := (mkF m 293 #[.val (.int p0), .val (.long q1), .second, .val (.long q2), .second, .val (.long q3), .second, .val (.long q4), .second, .val (.int 8), .val (.ref bn1), .val (.ref bn383), .val (.ref bk450_0), .val (.int 1)] [(.ref bk450_0)])) rfl rfl (hb hby at_293) _ ?_
      rw [len_of So452 No452]
      show Steps p.tables e below (Tk459.setTop (mkF m 294 #[.val (.int p0), .val (.long q1), .second, .val (.long q2), .second, .val (.long q3), .second, .val (.long q4), .second, .val (.int 8), .val (.ref bn1), .val (.ref bn383), .val (.ref bk450_0), .val (.int 1)] [(.int 5)])) _
      refine XS.iconst Xk459.here hx rfl (hb hby at_294) ?_
      refine XS.icmpNo Xk459.here hx rfl (hb hby at_295) rfl (XT.ii_le_f (by decide : (2 : Int32) < (5 : Int32))) ?_
      refine XS.iload Xk459.here hx rfl (hb hby at_298) rfl ?_
      refine XS.ifNo Xk459.here hx rfl (hb hby at_300) rfl (XT.i0_eq_f (by decide : ¬ ((1 : Int32) = (0 : Int32)))) ?_
      refine XS.aload Xk459.here hx rfl (hb hby at_303) rfl rfl ?_
      refine XS.iconst Xk459.here hx rfl (hb hby at_305) ?_
      refine Xk459.daload hx (j := (2 : Int32)) (v := (.double (own_vh8_6 (own_v0_2 q2) (FP.i2d q3.toInt32) (own_v0_3 q3)))) (by rw [ek459]; exact Aro452.1) (State.isArrayOf_alike hZ.alike Aro452.2.1) Aro452.2.2 hi460 ha461 (g := (mkF m 306 #[.val (.int p0), .val (.long q1), .second, .val (.long q2), .second, .val (.long q3), .second, .val (.long q4), .second, .val (.int 8), .val (.ref bn1), .val (.ref bn383), .val (.ref bk450_0), .val (.int 1)] [(.int 2), (.ref bk450_0)])) rfl rfl (hb hby at_306) _ ?_
      show Steps p.tables e below (Tk459.setTop (mkF m 307 #[.val (.int p0), .val (.long q1), .second, .val (.long q2), .second, .val (.long q3), .second, .val (.long q4), .second, .val (.int 8), .val (.ref bn1), .val (.ref bn383), .val (.ref bk450_0), .val (.int 1)] [(.double (own_vh8_6 (own_v0_2 q2) (FP.i2d q3.toInt32) (own_v0_3 q3)))])) _
      refine XS.aload Xk459.here hx rfl (hb hby at_307) rfl rfl ?_
      refine XS.iload Xk459.here hx rfl (hb hby at_309) rfl ?_
      refine XS.iconst Xk459.here hx rfl (hb hby at_311) ?_
      refine stk462 _ ?_
      show Steps p.tables e below (Tk462.setTop (mkF m 315 #[.val (.int p0), .val (.long q1), .second, .val (.long q2), .second, .val (.long q3), .second, .val (.long q4), .second, .val (.int 8), .val (.ref bn1), .val (.ref bn383), .val (.ref bk450_0), .val (.int 1)] [(.double (own_rex26_0 (own_v0_2 q2) (FP.i2d q3.toInt32) (own_v0_3 q3))), (.double (own_vh8_6 (own_v0_2 q2) (FP.i2d q3.toInt32) (own_v0_3 q3)))])) _
      refine XS.dcmpS Xk462.here hx rfl (hb hby at_315) rfl rfl ?_
      refine XS.ifNo Xk462.here hx rfl (hb hby at_316) rfl (XT.i0_ne_f (hc316_5 hs35)) ?_
      refine XS.iconst Xk462.here hx rfl (hb hby at_319) ?_
      refine XS.goto Xk462.here hx rfl (pc0 := 320) (pc' := 324) rfl (hb hby at_320) (by decide) (by decide) ?_
      refine XS.istore Xk462.here hx rfl (hb hby at_324) rfl (l' := #[.val (.int p0), .val (.long q1), .second, .val (.long q2), .second, .val (.long q3), .second, .val (.long q4), .second, .val (.int 8), .val (.ref bn1), .val (.ref bn383), .val (.ref bk450_0), .val (.int 1)]) rfl ?_
      refine XS.aload Xk462.here hx rfl (hb hby at_326) rfl rfl ?_
      refine Xk462.arraylength hx (by rw [ek462]; exact Aro452.1) (State.isArrayOf_alike hZ.alike Aro452.2.1) (g := (mkF m 328 #[.val (.int p0), .val (.long q1), .second, .val (.long q2), .second, .val (.long q3), .second, .val (.long q4), .second, .val (.int 8), .val (.ref bn1), .val (.ref bn383), .val (.ref bk450_0), .val (.int 1)] [(.ref bk450_0)])) rfl rfl (hb hby at_328) _ ?_
      rw [len_of So452 No452]
      show Steps p.tables e below (Tk462.setTop (mkF m 329 #[.val (.int p0), .val (.long q1), .second, .val (.long q2), .second, .val (.long q3), .second, .val (.long q4), .second, .val (.int 8), .val (.ref bn1), .val (.ref bn383), .val (.ref bk450_0), .val (.int 1)] [(.int 5)])) _
      refine XS.iconst Xk462.here hx rfl (hb hby at_329) ?_
      refine XS.icmpNo Xk462.here hx rfl (hb hby at_330) rfl (XT.ii_le_f (by decide : (3 : Int32) < (5 : Int32))) ?_
      refine XS.iload Xk462.here hx rfl (hb hby at_333) rfl ?_
      refine XS.ifNo Xk462.here hx rfl (hb hby at_335) rfl (XT.i0_eq_f (by decide : ¬ ((1 : Int32) = (0 : Int32)))) ?_
      refine XS.aload Xk462.here hx rfl (hb hby at_338) rfl rfl ?_
      refine XS.iconst Xk462.here hx rfl (hb hby at_340) ?_
      refine Xk462.daload hx (j := (3 : Int32)) (v := (.double (own_vh8_9 (own_v0_3 q3) (FP.i2d q4.toInt32) (own_v0_4 q4)))) (by rw [ek462]; exact Aro452.1) (State.isArrayOf_alike hZ.alike Aro452.2.1) Aro452.2.2 hi463 ha464 (g := (mkF m 341 #[.val (.int p0), .val (.long q1), .second, .val (.long q2), .second, .val (.long q3), .second, .val (.long q4), .second, .val (.int 8), .val (.ref bn1), .val (.ref bn383), .val (.ref bk450_0), .val (.int 1)] [(.int 3), (.ref bk450_0)])) rfl rfl (hb hby at_341) _ ?_
      show Steps p.tables e below (Tk462.setTop (mkF m 342 #[.val (.int p0), .val (.long q1), .second, .val (.long q2), .second, .val (.long q3), .second, .val (.long q4), .second, .val (.int 8), .val (.ref bn1), .val (.ref bn383), .val (.ref bk450_0), .val (.int 1)] [(.double (own_vh8_9 (own_v0_3 q3) (FP.i2d q4.toInt32) (own_v0_4 q4)))])) _
      refine XS.aload Xk462.here hx rfl (hb hby at_342) rfl rfl ?_
      refine XS.iload Xk462.here hx rfl (hb hby at_344) rfl ?_
      refine XS.iconst Xk462.here hx rfl (hb hby at_346) ?_
      refine stk465 _ ?_
      show Steps p.tables e below (Tk465.setTop (mkF m 350 #[.val (.int p0), .val (.long q1), .second, .val (.long q2), .second, .val (.long q3), .second, .val (.long q4), .second, .val (.int 8), .val (.ref bn1), .val (.ref bn383), .val (.ref bk450_0), .val (.int 1)] [(.double (own_rex38_0 (own_v0_3 q3) (FP.i2d q4.toInt32) (own_v0_4 q4))), (.double (own_vh8_9 (own_v0_3 q3) (FP.i2d q4.toInt32) (own_v0_4 q4)))])) _
      refine XS.dcmpS Xk465.here hx rfl (hb hby at_350) rfl rfl ?_
      refine XS.ifNo Xk465.here hx rfl (hb hby at_351) rfl (XT.i0_ne_f (hc351_3 hs35)) ?_
      refine XS.iconst Xk465.here hx rfl (hb hby at_354) ?_
      refine XS.goto Xk465.here hx rfl (pc0 := 355) (pc' := 359) rfl (hb hby at_355) (by decide) (by decide) ?_
      refine XS.istore Xk465.here hx rfl (hb hby at_359) rfl (l' := #[.val (.int p0), .val (.long q1), .second, .val (.long q2), .second, .val (.long q3), .second, .val (.long q4), .second, .val (.int 8), .val (.ref bn1), .val (.ref bn383), .val (.ref bk450_0), .val (.int 1)]) rfl ?_
      refine XS.aload Xk465.here hx rfl (hb hby at_361) rfl rfl ?_
      refine Xk465.arraylength hx (by rw [ek465]; exact Aro452.1) (State.isArrayOf_alike hZ.alike Aro452.2.1) (g := (mkF m 363 #[.val (.int p0), .val (.long q1), .second, .val (.long q2), .second, .val (.long q3), .second, .val (.long q4), .second, .val (.int 8), .val (.ref bn1), .val (.ref bn383), .val (.ref bk450_0), .val (.int 1)] [(.ref bk450_0)])) rfl rfl (hb hby at_363) _ ?_
      rw [len_of So452 No452]
      show Steps p.tables e below (Tk465.setTop (mkF m 364 #[.val (.int p0), .val (.long q1), .second, .val (.long q2), .second, .val (.long q3), .second, .val (.long q4), .second, .val (.int 8), .val (.ref bn1), .val (.ref bn383), .val (.ref bk450_0), .val (.int 1)] [(.int 5)])) _
      refine XS.iconst Xk465.here hx rfl (hb hby at_364) ?_
      refine XS.icmpNo Xk465.here hx rfl (hb hby at_365) rfl (XT.ii_le_f (by decide : (4 : Int32) < (5 : Int32))) ?_
      refine XS.iload Xk465.here hx rfl (hb hby at_368) rfl ?_
      refine XS.ifNo Xk465.here hx rfl (hb hby at_370) rfl (XT.i0_eq_f (by decide : ¬ ((1 : Int32) = (0 : Int32)))) ?_
      refine XS.aload Xk465.here hx rfl (hb hby at_373) rfl rfl ?_
      refine XS.iconst Xk465.here hx rfl (hb hby at_375) ?_
      refine Xk465.daload hx (j := (4 : Int32)) (v := (.double (own_vh8_10 (own_v0_4 q4)))) (by rw [ek465]; exact Aro452.1) (State.isArrayOf_alike hZ.alike Aro452.2.1) Aro452.2.2 hi466 ha467 (g := (mkF m 376 #[.val (.int p0), .val (.long q1), .second, .val (.long q2), .second, .val (.long q3), .second, .val (.long q4), .second, .val (.int 8), .val (.ref bn1), .val (.ref bn383), .val (.ref bk450_0), .val (.int 1)] [(.int 4), (.ref bk450_0)])) rfl rfl (hb hby at_376) _ ?_
      show Steps p.tables e below (Tk465.setTop (mkF m 377 #[.val (.int p0), .val (.long q1), .second, .val (.long q2), .second, .val (.long q3), .second, .val (.long q4), .second, .val (.int 8), .val (.ref bn1), .val (.ref bn383), .val (.ref bk450_0), .val (.int 1)] [(.double (own_vh8_10 (own_v0_4 q4)))])) _
      refine XS.aload Xk465.here hx rfl (hb hby at_377) rfl rfl ?_
      refine XS.iload Xk465.here hx rfl (hb hby at_379) rfl ?_
      refine XS.iconst Xk465.here hx rfl (hb hby at_381) ?_
      refine stk468 _ ?_
      show Steps p.tables e below (Tk468.setTop (mkF m 385 #[.val (.int p0), .val (.long q1), .second, .val (.long q2), .second, .val (.long q3), .second, .val (.long q4), .second, .val (.int 8), .val (.ref bn1), .val (.ref bn383), .val (.ref bk450_0), .val (.int 1)] [(.double (own_rex48_0 (own_v0_4 q4))), (.double (own_vh8_10 (own_v0_4 q4)))])) _
      refine XS.dcmpS Xk468.here hx rfl (hb hby at_385) rfl rfl ?_
      refine XS.ifNo Xk468.here hx rfl (hb hby at_386) rfl (XT.i0_ne_f (hc386 hs35)) ?_
      refine XS.iconst Xk468.here hx rfl (hb hby at_389) ?_
      refine XS.goto Xk468.here hx rfl (pc0 := 390) (pc' := 394) rfl (hb hby at_390) (by decide) (by decide) ?_
      refine XS.istore Xk468.here hx rfl (hb hby at_394) rfl (l' := #[.val (.int p0), .val (.long q1), .second, .val (.long q2), .second, .val (.long q3), .second, .val (.long q4), .second, .val (.int 8), .val (.ref bn1), .val (.ref bn383), .val (.ref bk450_0), .val (.int 1)]) rfl ?_
      refine XS.iload Xk468.here hx rfl (hb hby at_396) rfl ?_
      show Steps p.tables e below (Tk468.setTop (mkF m 398 #[.val (.int p0), .val (.long q1), .second, .val (.long q2), .second, .val (.long q3), .second, .val (.long q4), .second, .val (.int 8), .val (.ref bn1), .val (.ref bn383), .val (.ref bk450_0), .val (.int 1)] [(.int 1)])) _
      exact retN Xk468 hx (t := .boolean) Bd.returns (by simp) (hb hby at_398) hr
    · show own_Q0 Z p0 q1 q2 q3 q4 h0 n0 _ Tk468.heap _
      rw [ek468]
      exact ⟨rfl, Nk468⟩
def own_TT (c : Int) (B : Nat) (a : UInt64) : Prop := own_at c 1073 a ∧ c.natAbs ≤ B
theorem own_ti (x : Int32) : own_TT (x.toInt * 2) 4294967296 (FP.i2d x) := ⟨own_at_up (j := 1073) (i := 1) (own_at_is (own_is_i2d x)), by have := x.toInt_lt; have := x.le_toInt; omega⟩
theorem own_tz : own_TT 0 0 0 := ⟨⟨by rw [FP.Core.fin_bits]; decide, by decide +kernel⟩, by decide⟩
theorem own_thi (x : Int32) : own_TT x.toInt 2147483648 (FP.ddiv (FP.i2d x) (4611686018427387904 : UInt64)) := ⟨own_at_divp (j := 1073) (i := 1) (own_at_is (own_is_i2d x)) own_2d (by have := x.toInt_lt; have := x.le_toInt; omega) (by decide), by have := x.toInt_lt; have := x.le_toInt; omega⟩
theorem own_thz : own_TT 0 0 (FP.ddiv (0 : UInt64) (4611686018427387904 : UInt64)) := ⟨own_at_divp (j := 1073) (i := 1) (own_at_is own_is_0) own_2d (by decide) (by decide), by decide⟩
theorem own_ta {c1 c2 : Int} {B1 B2 : Nat} {a b : UInt64} (ha : own_TT c1 B1 a) (hb : own_TT c2 B2 b) (h : B1 + B2 < 9007199254740992) : own_TT (c1 + c2) (B1 + B2) (FP.dadd a b) := by
  have h1 := ha.2; have h2 := hb.2
  exact ⟨own_at_add ha.1 hb.1 (by omega) (by decide), by omega⟩
theorem own_tn {c : Int} {B : Nat} {a : UInt64} (h : own_TT c B a) : NoNaN64 a := own_at_nn h.1
theorem own_te {c1 c2 : Int} {B1 B2 : Nat} {a b : UInt64} (ha : own_TT c1 B1 a) (hb : own_TT c2 B2 b) (e : c1 = c2) (o : CmpOp) : cmpValue (FP.dcmp a b) o = (0 : Int32) := own_at_eq ha.1 (e ▸ hb.1) o

set_option maxRecDepth 65536 in
set_option maxHeartbeats 40000000 in
theorem comes_1 {Post : Tables → Env → Array Value → State → Outcome → State → Prop} (hpost : ∀ tb e args s v u, (limb_1_1.after args s (.returned v) u = true ∧ limb_1_2.after args s (.returned v) u = true ∧ True) → FrameEnd s (.returned v) u (Jvm.fieldLocs frame_1_writes args s ++ Jvm.arrayLocs frame_1_arrays args s ++ Jvm.staticLocs frame_1_statics s) 16 128 → Post tb e args s (.returned v) u) :
    ArmFor flags0 classFile x code maxLocals ret World_1 tables_1 room_1 Calls_1 rest_1 Pre_1 Post := by
  intro l hfl _ _ p e ha hc hk s m args below hf hA hF happ hP
  obtain ⟨hcalls, hrest, hpre⟩ := hP
  obtain ⟨-, -, -, hnamed, -, -, -, hat⟩ := (Spec.applies_iff hf).mp happ
  obtain ⟨hg, hn⟩ := and_e (Cond.before_iff.mp (show (Jvm.Cond.and given_1 narrow_1).before args s = true from hpre))
  obtain ⟨g1a, g1b⟩ := and_e hg
  obtain ⟨g2a, g2b⟩ := and_e g1b
  obtain ⟨g3a, g3b⟩ := and_e g2b
  obtain ⟨g4a, g4b⟩ := and_e g3b
  obtain ⟨g5a, g5b⟩ := and_e g4b
  obtain ⟨w0, w1, w2, w3, w4, rfl⟩ : ∃ w0 w1 w2 w3 w4 : Value, args = #[w0, w1, w2, w3, w4] := by
    have hs : args.size = 5 := by simpa [Cond.value, given_1] using g1a
    obtain ⟨L⟩ := args
    match L, hs with
    | [w0, w1, w2, w3, w4], _ => exact ⟨w0, w1, w2, w3, w4, rfl⟩
  have hw := fun d (hd : d ∈ tables_1) => atoms_spec (ws := Jvm.Cond.code x code maxLocals ret :: tables_1) hat d (List.mem_cons_of_mem _ hd)
  obtain ⟨i0, ei0⟩ := is_v g2a
  obtain rfl : w0 = (.int i0) := Option.some.inj ei0
  obtain ⟨i1, ei1⟩ := isL_v g3a
  obtain rfl : w1 = (.long i1) := Option.some.inj ei1
  obtain ⟨i2, ei2⟩ := isL_v g4a
  obtain rfl : w2 = (.long i2) := Option.some.inj ei2
  obtain ⟨i3, ei3⟩ := isL_v g5a
  obtain rfl : w3 = (.long i3) := Option.some.inj ei3
  obtain ⟨i4, ei4⟩ := isL_v g5b
  obtain rfl : w4 = (.long i4) := Option.some.inj ei4
  obtain ⟨n, o, h1, h2, h3, _, L, rfl, ⟨rfl, N⟩, hq⟩ := own_rm0 l s _ hw tables_1 i0 i1 i2 i3 i4 s.heap s.heap.size (Nat.le_refl _) (fun _ => own_tn own_thz) (fun _ => own_tn (own_ta own_thz own_tz (by decide))) (fun _ => own_tn (own_ta (own_ta own_thz own_tz (by decide)) own_thz (by decide))) (fun _ => own_te own_tz (own_ta (own_ta own_thz own_tz (by decide)) own_thz (by decide)) (by omega) _) (fun _ => own_tn (own_ta own_tz (own_ti _) (by decide))) (fun _ => own_tn own_thz) (fun _ => own_tn (own_ta own_thz (own_ti _) (by decide))) (fun _ => own_tn (own_ta (own_ta own_thz (own_ti _) (by decide)) own_thz (by decide))) (fun _ => own_te (own_ta own_tz (own_ti _) (by decide)) (own_ta (own_ta own_thz (own_ti _) (by decide)) own_thz (by decide)) (by omega) _) (fun _ => own_tn (own_ta own_tz (own_ti _) (by decide))) (fun _ => own_tn (own_thi _)) (fun _ => own_tn (own_ta (own_ta own_tz (own_ti _) (by decide)) (own_thi _) (by decide))) (fun _ => own_tn (own_ta own_tz (own_thi _) (by decide))) (fun _ => own_tn own_thz) (fun _ => own_tn (own_ta own_thz (own_ti _) (by decide))) (fun _ => own_tn (own_ta (own_ta own_thz (own_ti _) (by decide)) (own_thi _) (by decide))) (fun _ => own_te (own_ta (own_ta own_tz (own_ti _) (by decide)) (own_thi _) (by decide)) (own_ta (own_ta own_thz (own_ti _) (by decide)) (own_thi _) (by decide)) (by omega) _) (fun _ => own_tn (own_ta (own_thi _) own_tz (by decide))) (fun _ => own_tn (own_ta (own_ta (own_thi _) own_tz (by decide)) own_thz (by decide))) (fun _ => own_te (own_ta own_tz (own_thi _) (by decide)) (own_ta (own_ta (own_thi _) own_tz (by decide)) own_thz (by decide)) (by omega) _) (fun _ => own_tn (own_ta own_tz (own_ti _) (by decide))) (fun _ => own_tn (own_thi _)) (fun _ => own_tn (own_ta (own_ta own_tz (own_ti _) (by decide)) (own_thi _) (by decide))) (fun _ => own_tn (own_ta own_tz (own_thi _) (by decide))) (fun _ => own_tn (own_ta (own_ta own_tz (own_thi _) (by decide)) (own_ti _) (by decide))) (fun _ => own_tn own_thz) (fun _ => own_tn (own_ta own_thz (own_ti _) (by decide))) (fun _ => own_tn (own_ta (own_ta own_thz (own_ti _) (by decide)) (own_thi _) (by decide))) (fun _ => own_te (own_ta (own_ta own_tz (own_ti _) (by decide)) (own_thi _) (by decide)) (own_ta (own_ta own_thz (own_ti _) (by decide)) (own_thi _) (by decide)) (by omega) _) (fun _ => own_tn (own_ta (own_thi _) (own_ti _) (by decide))) (fun _ => own_tn (own_ta (own_ta (own_thi _) (own_ti _) (by decide)) own_thz (by decide))) (fun _ => own_te (own_ta (own_ta own_tz (own_thi _) (by decide)) (own_ti _) (by decide)) (own_ta (own_ta (own_thi _) (own_ti _) (by decide)) own_thz (by decide)) (by omega) _) (fun _ => own_tn (own_ta own_tz (own_ti _) (by decide))) (fun _ => own_tn (own_thi _)) (fun _ => own_tn (own_ta (own_ta own_tz (own_ti _) (by decide)) (own_thi _) (by decide))) (fun _ => own_tn (own_ta own_tz (own_thi _) (by decide))) (fun _ => own_tn (own_ta (own_ta own_tz (own_thi _) (by decide)) (own_ti _) (by decide))) (fun _ => own_tn (own_thi _)) (fun _ => own_tn (own_ta (own_ta (own_ta own_tz (own_thi _) (by decide)) (own_ti _) (by decide)) (own_thi _) (by decide))) (fun _ => own_tn (own_ta own_tz (own_thi _) (by decide))) (fun _ => own_tn own_thz) (fun _ => own_tn (own_ta own_thz (own_ti _) (by decide))) (fun _ => own_tn (own_ta (own_ta own_thz (own_ti _) (by decide)) (own_thi _) (by decide))) (fun _ => own_te (own_ta (own_ta own_tz (own_ti _) (by decide)) (own_thi _) (by decide)) (own_ta (own_ta own_thz (own_ti _) (by decide)) (own_thi _) (by decide)) (by omega) _) (fun _ => own_tn (own_ta (own_thi _) (own_ti _) (by decide))) (fun _ => own_tn (own_ta (own_ta (own_thi _) (own_ti _) (by decide)) (own_thi _) (by decide))) (fun _ => own_te (own_ta (own_ta (own_ta own_tz (own_thi _) (by decide)) (own_ti _) (by decide)) (own_thi _) (by decide)) (own_ta (own_ta (own_thi _) (own_ti _) (by decide)) (own_thi _) (by decide)) (by omega) _) (fun _ => own_tn (own_ta (own_thi _) own_tz (by decide))) (fun _ => own_tn (own_ta (own_ta (own_thi _) own_tz (by decide)) own_thz (by decide))) (fun _ => own_te (own_ta own_tz (own_thi _) (by decide)) (own_ta (own_ta (own_thi _) own_tz (by decide)) own_thz (by decide)) (by omega) _) (fun _ => own_tn (own_ta own_tz (own_ti _) (by decide))) (fun _ => own_tn (own_thi _)) (fun _ => own_tn (own_ta (own_ta own_tz (own_ti _) (by decide)) (own_thi _) (by decide))) (fun _ => own_tn (own_ta own_tz (own_thi _) (by decide))) (fun _ => own_tn (own_ta (own_ta own_tz (own_thi _) (by decide)) (own_ti _) (by decide))) (fun _ => own_tn (own_thi _)) (fun _ => own_tn (own_ta (own_ta (own_ta own_tz (own_thi _) (by decide)) (own_ti _) (by decide)) (own_thi _) (by decide))) (fun _ => own_tn (own_ta own_tz (own_thi _) (by decide))) (fun _ => own_tn (own_ta (own_ta own_tz (own_thi _) (by decide)) (own_ti _) (by decide))) (fun _ => own_tn own_thz) (fun _ => own_tn (own_ta own_thz (own_ti _) (by decide))) (fun _ => own_tn (own_ta (own_ta own_thz (own_ti _) (by decide)) (own_thi _) (by decide))) (fun _ => own_te (own_ta (own_ta own_tz (own_ti _) (by decide)) (own_thi _) (by decide)) (own_ta (own_ta own_thz (own_ti _) (by decide)) (own_thi _) (by decide)) (by omega) _) (fun _ => own_tn (own_ta (own_thi _) (own_ti _) (by decide))) (fun _ => own_tn (own_ta (own_ta (own_thi _) (own_ti _) (by decide)) (own_thi _) (by decide))) (fun _ => own_te (own_ta (own_ta (own_ta own_tz (own_thi _) (by decide)) (own_ti _) (by decide)) (own_thi _) (by decide)) (own_ta (own_ta (own_thi _) (own_ti _) (by decide)) (own_thi _) (by decide)) (by omega) _) (fun _ => own_tn (own_ta (own_thi _) (own_ti _) (by decide))) (fun _ => own_tn (own_ta (own_ta (own_thi _) (own_ti _) (by decide)) own_thz (by decide))) (fun _ => own_te (own_ta (own_ta own_tz (own_thi _) (by decide)) (own_ti _) (by decide)) (own_ta (own_ta (own_thi _) (own_ti _) (by decide)) own_thz (by decide)) (by omega) _) (fun _ => own_tn (own_ta own_tz (own_ti _) (by decide))) (fun _ => own_tn (own_thi _)) (fun _ => own_tn (own_ta (own_ta own_tz (own_ti _) (by decide)) (own_thi _) (by decide))) (fun _ => own_tn (own_ta own_tz (own_thi _) (by decide))) (fun _ => own_tn (own_ta (own_ta own_tz (own_thi _) (by decide)) (own_ti _) (by decide))) (fun _ => own_tn (own_thi _)) (fun _ => own_tn (own_ta (own_ta (own_ta own_tz (own_thi _) (by decide)) (own_ti _) (by decide)) (own_thi _) (by decide))) (fun _ => own_tn (own_ta own_tz (own_thi _) (by decide))) (fun _ => own_tn (own_ta (own_ta own_tz (own_thi _) (by decide)) (own_ti _) (by decide))) (fun _ => own_tn (own_thi _)) (fun _ => own_tn (own_ta (own_ta (own_ta own_tz (own_thi _) (by decide)) (own_ti _) (by decide)) (own_thi _) (by decide))) (fun _ => own_tn (own_ta own_tz (own_thi _) (by decide))) (fun _ => own_tn own_thz) (fun _ => own_tn (own_ta own_thz (own_ti _) (by decide))) (fun _ => own_tn (own_ta (own_ta own_thz (own_ti _) (by decide)) (own_thi _) (by decide))) (fun _ => own_te (own_ta (own_ta own_tz (own_ti _) (by decide)) (own_thi _) (by decide)) (own_ta (own_ta own_thz (own_ti _) (by decide)) (own_thi _) (by decide)) (by omega) _) (fun _ => own_tn (own_ta (own_thi _) (own_ti _) (by decide))) (fun _ => own_tn (own_ta (own_ta (own_thi _) (own_ti _) (by decide)) (own_thi _) (by decide))) (fun _ => own_te (own_ta (own_ta (own_ta own_tz (own_thi _) (by decide)) (own_ti _) (by decide)) (own_thi _) (by decide)) (own_ta (own_ta (own_thi _) (own_ti _) (by decide)) (own_thi _) (by decide)) (by omega) _) (fun _ => own_tn (own_ta (own_thi _) (own_ti _) (by decide))) (fun _ => own_tn (own_ta (own_ta (own_thi _) (own_ti _) (by decide)) (own_thi _) (by decide))) (fun _ => own_te (own_ta (own_ta (own_ta own_tz (own_thi _) (by decide)) (own_ti _) (by decide)) (own_thi _) (by decide)) (own_ta (own_ta (own_thi _) (own_ti _) (by decide)) (own_thi _) (by decide)) (by omega) _) (fun _ => own_tn (own_ta (own_thi _) own_tz (by decide))) (fun _ => own_tn (own_ta (own_ta (own_thi _) own_tz (by decide)) own_thz (by decide))) (fun _ => own_te (own_ta own_tz (own_thi _) (by decide)) (own_ta (own_ta (own_thi _) own_tz (by decide)) own_thz (by decide)) (by omega) _) (fun _ => own_tn (own_ta own_tz (own_ti _) (by decide))) (fun _ => own_tn (own_thi _)) (fun _ => own_tn (own_ta (own_ta own_tz (own_ti _) (by decide)) (own_thi _) (by decide))) (fun _ => own_tn (own_ta own_tz (own_thi _) (by decide))) (fun _ => own_tn (own_ta (own_ta own_tz (own_thi _) (by decide)) (own_ti _) (by decide))) (fun _ => own_tn (own_thi _)) (fun _ => own_tn (own_ta (own_ta (own_ta own_tz (own_thi _) (by decide)) (own_ti _) (by decide)) (own_thi _) (by decide))) (fun _ => own_tn (own_ta own_tz (own_thi _) (by decide))) (fun _ => own_tn (own_ta (own_ta own_tz (own_thi _) (by decide)) (own_ti _) (by decide))) (fun _ => own_tn (own_thi _)) (fun _ => own_tn (own_ta (own_ta (own_ta own_tz (own_thi _) (by decide)) (own_ti _) (by decide)) (own_thi _) (by decide))) (fun _ => own_tn (own_ta own_tz (own_thi _) (by decide))) (fun _ => own_tn (own_ta (own_ta own_tz (own_thi _) (by decide)) (own_ti _) (by decide))) (fun _ => own_tn own_thz) (fun _ => own_tn (own_ta own_thz (own_ti _) (by decide))) (fun _ => own_tn (own_ta (own_ta own_thz (own_ti _) (by decide)) (own_thi _) (by decide))) (fun _ => own_te (own_ta (own_ta own_tz (own_ti _) (by decide)) (own_thi _) (by decide)) (own_ta (own_ta own_thz (own_ti _) (by decide)) (own_thi _) (by decide)) (by omega) _) (fun _ => own_tn (own_ta (own_thi _) (own_ti _) (by decide))) (fun _ => own_tn (own_ta (own_ta (own_thi _) (own_ti _) (by decide)) (own_thi _) (by decide))) (fun _ => own_te (own_ta (own_ta (own_ta own_tz (own_thi _) (by decide)) (own_ti _) (by decide)) (own_thi _) (by decide)) (own_ta (own_ta (own_thi _) (own_ti _) (by decide)) (own_thi _) (by decide)) (by omega) _) (fun _ => own_tn (own_ta (own_thi _) (own_ti _) (by decide))) (fun _ => own_tn (own_ta (own_ta (own_thi _) (own_ti _) (by decide)) (own_thi _) (by decide))) (fun _ => own_te (own_ta (own_ta (own_ta own_tz (own_thi _) (by decide)) (own_ti _) (by decide)) (own_thi _) (by decide)) (own_ta (own_ta (own_thi _) (own_ti _) (by decide)) (own_thi _) (by decide)) (by omega) _) (fun _ => own_tn (own_ta (own_thi _) (own_ti _) (by decide))) (fun _ => own_tn (own_ta (own_ta (own_thi _) (own_ti _) (by decide)) own_thz (by decide))) (fun _ => own_te (own_ta (own_ta own_tz (own_thi _) (by decide)) (own_ti _) (by decide)) (own_ta (own_ta (own_thi _) (own_ti _) (by decide)) own_thz (by decide)) (by omega) _) (fun _ => own_tn (own_ta own_tz (own_ti _) (by decide))) (fun _ => own_tn (own_thi _)) (fun _ => own_tn (own_ta (own_ta own_tz (own_ti _) (by decide)) (own_thi _) (by decide))) (fun _ => own_tn (own_ta own_tz (own_thi _) (by decide))) (fun _ => own_tn (own_ta (own_ta own_tz (own_thi _) (by decide)) (own_ti _) (by decide))) (fun _ => own_tn (own_thi _)) (fun _ => own_tn (own_ta (own_ta (own_ta own_tz (own_thi _) (by decide)) (own_ti _) (by decide)) (own_thi _) (by decide))) (fun _ => own_tn (own_ta own_tz (own_thi _) (by decide))) (fun _ => own_tn (own_ta (own_ta own_tz (own_thi _) (by decide)) (own_ti _) (by decide))) (fun _ => own_tn (own_thi _)) (fun _ => own_tn (own_ta (own_ta (own_ta own_tz (own_thi _) (by decide)) (own_ti _) (by decide)) (own_thi _) (by decide))) (fun _ => own_tn (own_ta own_tz (own_thi _) (by decide))) (fun _ => own_tn (own_ta (own_ta own_tz (own_thi _) (by decide)) (own_ti _) (by decide))) (fun _ => own_tn (own_thi _)) (fun _ => own_tn (own_ta (own_ta (own_ta own_tz (own_thi _) (by decide)) (own_ti _) (by decide)) (own_thi _) (by decide))) (fun _ => own_tn (own_ta own_tz (own_thi _) (by decide))) (fun _ => own_tn own_thz) (fun _ => own_tn (own_ta own_thz (own_ti _) (by decide))) (fun _ => own_tn (own_ta (own_ta own_thz (own_ti _) (by decide)) (own_thi _) (by decide))) (fun _ => own_te (own_ta (own_ta own_tz (own_ti _) (by decide)) (own_thi _) (by decide)) (own_ta (own_ta own_thz (own_ti _) (by decide)) (own_thi _) (by decide)) (by omega) _) (fun _ => own_tn (own_ta (own_thi _) (own_ti _) (by decide))) (fun _ => own_tn (own_ta (own_ta (own_thi _) (own_ti _) (by decide)) (own_thi _) (by decide))) (fun _ => own_te (own_ta (own_ta (own_ta own_tz (own_thi _) (by decide)) (own_ti _) (by decide)) (own_thi _) (by decide)) (own_ta (own_ta (own_thi _) (own_ti _) (by decide)) (own_thi _) (by decide)) (by omega) _) (fun _ => own_tn (own_ta (own_thi _) (own_ti _) (by decide))) (fun _ => own_tn (own_ta (own_ta (own_thi _) (own_ti _) (by decide)) (own_thi _) (by decide))) (fun _ => own_te (own_ta (own_ta (own_ta own_tz (own_thi _) (by decide)) (own_ti _) (by decide)) (own_thi _) (by decide)) (own_ta (own_ta (own_thi _) (own_ti _) (by decide)) (own_thi _) (by decide)) (by omega) _) (fun _ => own_tn (own_ta (own_thi _) (own_ti _) (by decide))) (fun _ => own_tn (own_ta (own_ta (own_thi _) (own_ti _) (by decide)) (own_thi _) (by decide))) (fun _ => own_te (own_ta (own_ta (own_ta own_tz (own_thi _) (by decide)) (own_ti _) (by decide)) (own_thi _) (by decide)) (own_ta (own_ta (own_thi _) (own_ti _) (by decide)) (own_thi _) (by decide)) (by omega) _) (fun _ => own_tn (own_ta (own_thi _) own_tz (by decide))) (fun _ => own_tn (own_ta (own_ta (own_thi _) own_tz (by decide)) own_thz (by decide))) (fun _ => own_te (own_ta own_tz (own_thi _) (by decide)) (own_ta (own_ta (own_thi _) own_tz (by decide)) own_thz (by decide)) (by omega) _) p e ha hc hk s m _ below hf ((Spec.applies_iff_loose hf).mp happ).1 ⟨rfl, State.Warmed39.refl s, rfl⟩ trivial
  refine ⟨n, _, h1, h2, h3, hpost _ _ _ _ _ _ ⟨Cond.after_iff.mpr rfl, Cond.after_iff.mpr (eq_i res_at (Term.int_eval (1)) rfl), trivial⟩ ⟨hq.1, hq.2.1, (hq.2.2.sift fun y hy => Or.inr (N y hy)).mono (by decide) (by decide)⟩⟩
theorem main_1_1 : Claimed_1_1 := comes_1 fun _ _ _ _ _ _ h hF => ⟨h.1, hF⟩
theorem main_1_2 : Claimed_1_2 := comes_1 fun _ _ _ _ _ _ h hF => ⟨h.2.1, hF⟩
end Jvm.Pilot.@@N@@
namespace Jvm.Pilot.@@N@@
open Jvm Jvm.ClassFile Sem Op Lib Jvm.Free Jvm.Stand Jvm.Pilot.@@N@@.Jvm.D
/-! MADE BY PROGRAM (witnessworld.py) out of the Statement's table words and the real class files: 11 classes; the members and pool entries that the words name. The judged class is class 1, her method 3. -/
namespace start1
open Jvm.ClassFile
def u (s : String) : CpInfo := .utf8 (stringToUtf16 s)
/-- a pool by its gaps: so many unusable entries, then the entry; so many at the end -/
def gap : Nat → List CpInfo → List CpInfo
  | 0, r => r
  | n + 1, r => .unusable :: gap n r
def poolList (es : List (Nat × CpInfo)) (last : Nat) : List CpInfo := es.foldr (fun e r => gap e.1 (e.2 :: r)) (gap last [])
def pool (es : List (Nat × CpInfo)) (last : Nat) : Array CpInfo := ⟨poolList es last⟩
def fileOf (pool : Array CpInfo) (this : Nat) (attrs : Array Attribute := #[]) (ms : Array MethodInfo := #[]) (fl : Nat := 33) (sup : Nat := 0) (ifs : Array Nat := #[]) (fds : Array FieldInfo := #[]) : ClassFile where
  minorVersion := 0
  majorVersion := 65
  constantPool := pool
  accessFlags := fl
  thisClass := this
  superClass := sup
  interfaces := ifs
  fields := fds
  methods := ms
  attributes := attrs
def plain (name : String) (sup : Option ClassId) : Class where
  name := name
  kind := .ordinary
  loader := none
  accessFlags := 33
  super := sup
  interfaces := #[]
  cf := none
  fields := #[]
  methods := #[]
  instanceTypes := #[]
  staticTypes := #[]
  resolved := #[]
  callSites := []
  init := .initialized
  statics := none
  mirror := none

def pool0 : Array CpInfo := pool [(5, u "<init>"), (0, u "()V"), (1, .class_ 10), (1, u "java/lang/Object")] 113

def k0m0 : Method := { name := "<init>", desc := "()V", sig := { parameters := [], returnType := none }, accessFlags := 1, code := none }
/-- java/lang/Object -/
def k0 : Class := { plain "java/lang/Object" none with
  accessFlags := 33
  interfaces := #[]
  cf := some (fileOf pool0 8 #[] #[{ accessFlags := 1, nameIndex := 5, descriptorIndex := 6, attributes := #[] }] 33 0 #[] #[])
  fields := #[]
  methods := #[k0m0]
  instanceTypes := #[]
  staticTypes := #[]
  resolved := Array.replicate 124 none
  statics := none }

def pool1 : Array CpInfo := pool [(2, .class_ 4), (1, u "java/lang/Object"), (0, u "<init>"), (0, u "()V"), (0, .methodref 8 9), (0, .class_ 10), (0, .nameAndType 11 12), (0, u "com/example/surepath/surepath/LatticesHalvedPinLaw"), (0, u "at"), (0, u "([DII)D"), (0, .double 4611686018427387904), (1, .integer 2147483647), (0, .methodref 17 18), (0, .class_ 19), (0, .nameAndType 20 21), (0, u "com/example/surepath/surepath/TravelTime$Lattices"), (0, u "halved"), (0, u "([D)[D"), (0, .methodref 8 23), (0, .nameAndType 24 12), (0, u "expect"), (3, u "law"), (0, u "(IJJJJ)Z")] 8

def k1m0 : Method := { name := "<init>", desc := "()V", sig := { parameters := [], returnType := none }, accessFlags := 2, code := none }
def k1c1 : Code := { maxStack := 2, maxLocals := 3, code := method_2_code, exceptionTable := #[], attributes := #[] }
def k1m1 : Method := { name := "at", desc := "([DII)D", sig := { parameters := [(.array .double), .int, .int], returnType := some .double }, accessFlags := 10, code := some k1c1 }
def k1c2 : Code := { maxStack := 6, maxLocals := 3, code := method_3_code, exceptionTable := #[], attributes := #[] }
def k1m2 : Method := { name := "expect", desc := "([DII)D", sig := { parameters := [(.array .double), .int, .int], returnType := some .double }, accessFlags := 10, code := some k1c2 }
def k1c3 : Code := { maxStack := 5, maxLocals := 14, code := code, exceptionTable := #[], attributes := #[] }
def k1m3 : Method := { name := "law", desc := "(IJJJJ)Z", sig := { parameters := [.int, .long, .long, .long, .long], returnType := some .boolean }, accessFlags := 9, code := some k1c3 }
/-- com/example/surepath/surepath/LatticesHalvedPinLaw -/
def k1 : Class := { plain "com/example/surepath/surepath/LatticesHalvedPinLaw" (some 0) with
  accessFlags := 49
  interfaces := #[]
  cf := some (fileOf pool1 8 #[] #[{ accessFlags := 2, nameIndex := 5, descriptorIndex := 6, attributes := #[] }, { accessFlags := 10, nameIndex := 11, descriptorIndex := 12, attributes := #[] }, { accessFlags := 10, nameIndex := 24, descriptorIndex := 12, attributes := #[] }, { accessFlags := 9, nameIndex := 28, descriptorIndex := 29, attributes := #[] }] 49 2 #[] #[])
  fields := #[]
  methods := #[k1m0, k1m1, k1m2, k1m3]
  instanceTypes := #[]
  staticTypes := #[]
  resolved := Array.replicate 38 none
  statics := none }

def pool2 : Array CpInfo := pool [(1, .class_ 2), (0, u "com/example/surepath/surepath/TravelTime"), (1, .class_ 6), (1, u "java/lang/Object"), (0, u "<init>"), (0, u "()V"), (4, .class_ 15), (1, u "com/example/surepath/surepath/TravelTime$Lattices"), (0, u "masses"), (0, u "Ljava/util/Map;"), (2, u "spans"), (2, u "variances"), (2, u "curves"), (2, u "points"), (49, u "([D)[D"), (23, .double 4611686018427387904), (94, u "halved")] 63

def k2m0 : Method := { name := "<init>", desc := "()V", sig := { parameters := [], returnType := none }, accessFlags := 0, code := none }
def k2c1 : Code := { maxStack := 8, maxLocals := 3, code := prog_64_method_16_code, exceptionTable := #[], attributes := #[] }
def k2m1 : Method := { name := "halved", desc := "([D)[D", sig := { parameters := [(.array .double)], returnType := some (.array .double) }, accessFlags := 8, code := some k2c1 }
/-- com/example/surepath/surepath/TravelTime$Lattices -/
def k2 : Class := { plain "com/example/surepath/surepath/TravelTime$Lattices" (some 0) with
  accessFlags := 48
  interfaces := #[]
  cf := some (fileOf pool2 13 #[.nestHost 1] #[{ accessFlags := 0, nameIndex := 7, descriptorIndex := 8, attributes := #[] }, { accessFlags := 8, nameIndex := 198, descriptorIndex := 79, attributes := #[] }] 48 4 #[] #[{ accessFlags := 18, nameIndex := 16, descriptorIndex := 17, attributes := #[] }, { accessFlags := 18, nameIndex := 20, descriptorIndex := 17, attributes := #[] }, { accessFlags := 18, nameIndex := 23, descriptorIndex := 17, attributes := #[] }, { accessFlags := 18, nameIndex := 26, descriptorIndex := 17, attributes := #[] }, { accessFlags := 18, nameIndex := 29, descriptorIndex := 17, attributes := #[] }])
  fields := #[{ name := "masses", type := (.object "java/util/Map"), accessFlags := 18, slot := 0, constantValue := 0 }, { name := "spans", type := (.object "java/util/Map"), accessFlags := 18, slot := 1, constantValue := 0 }, { name := "variances", type := (.object "java/util/Map"), accessFlags := 18, slot := 2, constantValue := 0 }, { name := "curves", type := (.object "java/util/Map"), accessFlags := 18, slot := 3, constantValue := 0 }, { name := "points", type := (.object "java/util/Map"), accessFlags := 18, slot := 4, constantValue := 0 }]
  methods := #[k2m0, k2m1]
  instanceTypes := #[(.object "java/util/Map"), (.object "java/util/Map"), (.object "java/util/Map"), (.object "java/util/Map"), (.object "java/util/Map")]
  staticTypes := #[]
  resolved := Array.replicate 262 none
  statics := none }

def pool3 : Array CpInfo := pool [(1, u "java/lang/Cloneable"), (0, .class_ 1), (0, u "java/lang/Object"), (0, .class_ 3)] 3

/-- java/lang/Cloneable -/
def k3 : Class := { plain "java/lang/Cloneable" (some 0) with
  accessFlags := 1537
  interfaces := #[]
  cf := some (fileOf pool3 2 #[] #[] 1537 4 #[] #[])
  fields := #[]
  methods := #[]
  instanceTypes := #[]
  staticTypes := #[]
  resolved := Array.replicate 8 none
  statics := none }

def pool4 : Array CpInfo := pool [(1, u "java/io/Serializable"), (0, .class_ 1), (0, u "java/lang/Object"), (0, .class_ 3)] 3

/-- java/io/Serializable -/
def k4 : Class := { plain "java/io/Serializable" (some 0) with
  accessFlags := 1537
  interfaces := #[]
  cf := some (fileOf pool4 2 #[] #[] 1537 4 #[] #[])
  fields := #[]
  methods := #[]
  instanceTypes := #[]
  staticTypes := #[]
  resolved := Array.replicate 8 none
  statics := none }

/-- the primitive byte -/
def k5 : Class := { plain "byte" none with kind := .primitive 'B', accessFlags := 0x411 }
/-- [B -/
def k6 : Class := { plain "[B" (some 0) with kind := .array 5 .byte, interfaces := #[3, 4], accessFlags := 1041 }

/-- the primitive double -/
def k7 : Class := { plain "double" none with kind := .primitive 'D', accessFlags := 0x411 }
/-- [D -/
def k8 : Class := { plain "[D" (some 0) with kind := .array 7 .double, interfaces := #[3, 4], accessFlags := 1041 }

/-- the primitive int -/
def k9 : Class := { plain "int" none with kind := .primitive 'I', accessFlags := 0x411 }
/-- [I -/
def k10 : Class := { plain "[I" (some 0) with kind := .array 9 .int, interfaces := #[3, 4], accessFlags := 1041 }

def heap : Heap := #[]
def classes : Array Class := #[k0, k1, k2, k3, k4, k5, k6, k7, k8, k9, k10]
def interned : List (Array UInt16 × Addr) := []
def slotsUsed : Nat := 0
def theMethod : MethodId := ⟨1, 3⟩
def args0 : Array Value := #[.int 5, .long 6, .long 3, .long 1, .long 9]
def aboutOver (below : List Frame) : State where
  vm := { classes := classes, interned := interned.toArray }
  heap := heap
  slotsUsed := slotsUsed
  threads := #[{ frames := .invoking theMethod args0 :: below }]
def below0 : List Frame := [.native { method := ⟨0, 0⟩, args := #[] }]
def about1 : State := aboutOver below0
def p0 : Program := .bare "" "" ""
def e0 : Env := launch0.env 0 0 0
theorem w_frames : about1.frames = Frame.invoking theMethod args0 :: below0 := rfl
set_option maxRecDepth 65536 in
theorem w_args : argsFit about1.vm theMethod args0 = true := by decide +kernel
set_option maxRecDepth 65536 in
theorem w_heap : heapFits about1 = true := by decide +kernel
set_option maxRecDepth 65536 in
theorem w_runnable : about1.curStatus? = some .runnable := by decide +kernel
set_option maxRecDepth 65536 in
theorem w_alone : about1.alone = true := by decide +kernel
set_option maxRecDepth 65536 in
theorem w_named : about1.methodNamed? x = some theMethod := by decide +kernel
set_option maxRecDepth 65536 in
theorem w_hears : about1.hears theMethod below0 = true := by decide +kernel
set_option maxRecDepth 65536 in
theorem w_ripe : about1.ripe theMethod args0 below0 = true := by decide +kernel
theorem w_running : about1.status = .running := rfl
set_option maxRecDepth 65536 in
theorem w_room : about1.hasRoom e0.platform room_1 = true :=
  launch0.hasRoom_least _ room_1 (by decide +kernel) (by decide +kernel) (by decide +kernel) (by decide +kernel) (by decide +kernel) (by decide +kernel)
theorem allAtoms_all (ts : List Jvm.Cond) (a : Array Jvm.Value) (st : Jvm.State) : (allAtoms ts).before a st = ts.all (fun c => c.before a st) := by
  induction ts with
  | nil => rfl
  | cons c t ih =>
    show (Jvm.Cond.and c (allAtoms t)).before a st = _
    rw [Jvm.Cond.before_and, ih, List.all_cons]
def words1 : List Jvm.Cond := Jvm.Cond.code x code maxLocals ret :: tables_1
/-- a 'code' word, met by the world's own term for the bytes: nothing is compared byte by byte -/
theorem code_word {y : MethodName} {bytes : ByteArray} {mx : Nat} {rt : Option FieldType} {a : Array Value} {s : State} {m : MethodId} {meth : Method} {c : Code} (h1 : s.methodNamed? y = some m) (h2 : s.vm.method? m = some meth) (h3 : meth.code = some c) (h4 : c.code = bytes)
    (h5 : (c.maxLocals == mx && c.exceptionTable.isEmpty && decide (c.maxStack ≤ mostOperands) && decide (meth.sig.returnType = rt) && !meth.locks && decide (parseMethodDescriptor y.desc = some meth.sig)) = true) : (Jvm.Cond.code y bytes mx rt).before a s = true := by
  simp only [Bool.and_eq_true, beq_iff_eq, Bool.not_eq_true', decide_eq_true_eq] at h5
  obtain ⟨⟨⟨⟨⟨g1, g2⟩, g3⟩, g4⟩, g5⟩, g6⟩ := h5
  simp [Cond.before, Cond.holds, Cond.value, h1, h2, h3, h4, g1, g2, g3, g4, g5, g6]
def isCode : Jvm.Cond → Bool
  | .code _ _ _ _ => true
  | _ => false
theorem all_split {L : List Jvm.Cond} {P : Jvm.Cond → Bool} (h1 : L.all (fun c => isCode c || P c) = true) (h2 : ∀ c ∈ L.filter isCode, P c = true) : L.all P = true := by
  refine List.all_eq_true.mpr fun c hc => ?_
  have h := List.all_eq_true.mp h1 c hc
  rcases Bool.eq_false_or_eq_true (isCode c) with hi | hi
  · exact h2 c (List.mem_filter.mpr ⟨hc, hi⟩)
  · simpa [hi] using h
set_option maxRecDepth 65536 in
theorem w_c0 : (Jvm.Cond.code x code maxLocals ret).before args0 about1 = true := code_word (m := ⟨1, 3⟩) (meth := k1m3) (c := k1c3) (by decide +kernel) rfl rfl rfl (by decide +kernel)
set_option maxRecDepth 65536 in
theorem w_c1 : (Jvm.Cond.code ({ cls := "com/example/surepath/surepath/TravelTime$Lattices", name := "halved", desc := "([D)[D" } : Jvm.MethodName) prog_64_method_16_code (3 : Nat) (Option.some (Jvm.ClassFile.FieldType.array Jvm.ClassFile.FieldType.double))).before args0 about1 = true := code_word (m := ⟨2, 1⟩) (meth := k2m1) (c := k2c1) (by decide +kernel) rfl rfl rfl (by decide +kernel)
set_option maxRecDepth 65536 in
theorem w_c2 : (Jvm.Cond.code ({ cls := "com/example/surepath/surepath/LatticesHalvedPinLaw", name := "expect", desc := "([DII)D" } : Jvm.MethodName) method_3_code (3 : Nat) (Option.some Jvm.ClassFile.FieldType.double)).before args0 about1 = true := code_word (m := ⟨1, 2⟩) (meth := k1m2) (c := k1c2) (by decide +kernel) rfl rfl rfl (by decide +kernel)
set_option maxRecDepth 65536 in
theorem w_c3 : (Jvm.Cond.code ({ cls := "com/example/surepath/surepath/LatticesHalvedPinLaw", name := "at", desc := "([DII)D" } : Jvm.MethodName) method_2_code (3 : Nat) (Option.some Jvm.ClassFile.FieldType.double)).before args0 about1 = true := code_word (m := ⟨1, 1⟩) (meth := k1m1) (c := k1c1) (by decide +kernel) rfl rfl rfl (by decide +kernel)
def codes1 : List Jvm.Cond := [Jvm.Cond.code x code maxLocals ret, Jvm.Cond.code ({ cls := "com/example/surepath/surepath/TravelTime$Lattices", name := "halved", desc := "([D)[D" } : Jvm.MethodName) prog_64_method_16_code (3 : Nat) (Option.some (Jvm.ClassFile.FieldType.array Jvm.ClassFile.FieldType.double)), Jvm.Cond.code ({ cls := "com/example/surepath/surepath/LatticesHalvedPinLaw", name := "expect", desc := "([DII)D" } : Jvm.MethodName) method_3_code (3 : Nat) (Option.some Jvm.ClassFile.FieldType.double), Jvm.Cond.code ({ cls := "com/example/surepath/surepath/LatticesHalvedPinLaw", name := "at", desc := "([DII)D" } : Jvm.MethodName) method_2_code (3 : Nat) (Option.some Jvm.ClassFile.FieldType.double)]
set_option maxRecDepth 65536 in
theorem codes_eq : words1.filter isCode = codes1 := rfl
theorem w_codes : ∀ c ∈ words1.filter isCode, c.before args0 about1 = true := by
  rw [codes_eq]
  intro c hc
  simp only [codes1, List.mem_cons, List.not_mem_nil, or_false] at hc
  rcases hc with rfl | rfl | rfl | rfl
  · exact w_c0
  · exact w_c1
  · exact w_c2
  · exact w_c3
set_option maxRecDepth 65536 in
theorem w_t1 : words1.all (fun c => isCode c || c.before args0 about1) = true := by decide +kernel
theorem w_tables : (allAtoms (Jvm.Cond.code x code maxLocals ret :: tables_1)).before args0 about1 = true := by
  rw [allAtoms_all]
  show words1.all (fun c => c.before args0 about1) = true
  refine all_split ?_ w_codes
  rw [w_t1]
set_option maxRecDepth 65536 in
theorem w_case : (Jvm.Cond.and given_1 narrow_1).before args0 about1 = true := by decide +kernel
theorem w_applies : (headSpec (Jvm.Cond.code x code maxLocals ret :: tables_1) room_1).applies x e0.platform about1 = true :=
  (Spec.applies_iff w_frames).mpr ⟨w_running, w_runnable, w_alone, w_named, w_hears, w_ripe, w_room, w_tables⟩
theorem atStart : AtStart classFile x code maxLocals ret World_1 tables_1 room_1 Calls_1 rest_1 Pre_1 launch0 p0 e0 about1 theMethod args0 below0 :=
  ⟨lists_1, trivial, launch0.admits_env _ _ _, launch0.least_env, fairChoices_fair.cas, fairChoices_fair.clock, w_frames, w_args, w_heap, w_applies, trivial, trivial, w_case⟩
end start1
theorem witness_1 : WitnessClaimed_1 := ⟨start1.p0, start1.e0, start1.about1, start1.theMethod, start1.args0, start1.below0, start1.atStart⟩
end Jvm.Pilot.@@N@@
