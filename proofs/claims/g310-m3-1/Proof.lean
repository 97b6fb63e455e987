import JvmDerived
import JvmDerived.Pilot.@@N@@Statement
import JvmDerived.Pilot.@@N@@Code
@@BLOCK:NumsL.lean.txt@@
set_option linter.unusedVariables false
set_option linter.unusedSimpArgs false
namespace Jvm.RoadKit
open Sem ClassFile Op Lib Jvm.Stand Jvm.Free Jvm.LawKit
section New
variable {p : Program} {l : Launch} {e : Env} {R : Room} {s : State} {m : MethodId} {args : Array Value} {below : List Frame} {meth : Method} {c : Code} {T : State} {locs : List Loc} {cells slots : Nat}
theorem retI (X : Stand p l e R s m args below meth c T locs cells slots) (hx : p.tables.exec = Jvm.exec) {pc : Nat} {Ls : Array Slot} {z : Int32} {rest : List Value} (hret : meth.sig.returnType = some .int) (hd : decode c.code pc = .ok (.ireturn, 1)) {fs : List Frame}
    (hl : ∀ (f : JFrame) (acts : List Action), f.method = m → f.locked = none → f.entered = [] → (doReturn e (T.setTop f) acts (some (.int z))).1 = T.setFrames fs) : Steps p.tables e below (T.setTop (mkF m pc Ls (.int z :: rest))) (T.setFrames fs) := by
  have hm' : T.vm.method? m = some meth := X.method'
  have hn : narrow .int (.int z) = .int z := rfl
  show Steps p.tables e below (T.setTop { method := m, pc := pc, locals := Ls, stack := _ :: rest, locked := none }) _
  jvm_step X.here [X.here.top, hx, hd, hm', hret, hn]
  first | (intro acts; rw [hl _ acts rfl rfl rfl]) | rw [hl _ _ rfl rfl rfl]
  exact Steps.refl _
theorem own_retD (X : Stand p l e R s m args below meth c T locs cells slots) (hx : p.tables.exec = Jvm.exec) {pc : Nat} {Ls : Array Slot} {z : UInt64} {rest : List Value} (hret : meth.sig.returnType = some .double) (hd : decode c.code pc = .ok (.dreturn, 1)) {fs : List Frame}
    (hl : ∀ (f : JFrame) (acts : List Action), f.method = m → f.locked = none → f.entered = [] → (doReturn e (T.setTop f) acts (some (.double z))).1 = T.setFrames fs) : Steps p.tables e below (T.setTop (mkF m pc Ls (.double z :: rest))) (T.setFrames fs) := by
  have hm' : T.vm.method? m = some meth := X.method'
  have hn : narrow .double (.double z) = .double z := rfl
  show Steps p.tables e below (T.setTop { method := m, pc := pc, locals := Ls, stack := _ :: rest, locked := none }) _
  jvm_step X.here [X.here.top, hx, hd, hm', hret, hn]
  first | (intro acts; rw [hl _ acts rfl rfl rfl]) | rw [hl _ _ rfl rfl rfl]
  exact Steps.refl _
theorem own_mvM {Z s : State} {a0 args : Array Value} {own host : String} {y : MethodName} {index : Nat} (hZ : Z.Warmed39 s.vm) (w : (Cond.methodLinkNest own index y host).before a0 Z = true) : (Cond.methodLinkNest own index y host).before args s = true := (Cond.methodLinkNest_wide hZ w :)
theorem own_selP {Z s : State} {a0 args : Array Value} {y : MethodName} {n : Nat} (hZ : Z.Warmed39 s.vm) (wi : (Cond.instantiable y.cls n).before a0 Z = true) (wp : (Cond.privateMethod y).before a0 Z = true) (wm : (Cond.instanceMethod y).before a0 Z = true) (hy : y.cls ≠ "java/lang/invoke/MethodHandle" ∧ y.cls ≠ "java/lang/invoke/VarHandle") : (Cond.selects y.cls y y).before args s = true := by
  obtain ⟨c, k, hc, hk, -, hflags, -⟩ := Cond.instantiable_spec (mvT (args := args) hZ wi)
  have hitf : k.isInterface = false := by
    cases hi : k.isInterface
    · rfl
    · simp [hi] at hflags
  exact selects_self_of_private hc hk hitf (Cond.privateMethod_at (mvP hZ wp (args := args))) (mvT hZ wm) hy
theorem own_stat {Z : State} {args : Array Value} {C n d K : String} (h : (Cond.exactly (Term.static C n d) K).before args Z = true) (hi : (Cond.initializedFor C n d).before args Z = true) :
    ∃ u : Addr, (Term.static C n d).eval args Z none [] Z = some (.ref u) ∧ Sta Z Z.heap C n d (.ref u) ∧ Exa Z Z.heap u K := by
  obtain ⟨a', c', cell, k, e1, -⟩ := Cond.exactly_spec h
  exact ⟨a', e1, Sta.start e1 (Or.inl hi), Exa.start e1 (Cond.before_iff.mp h)⟩
theorem own_statJ {Z : State} {args : Array Value} {t : Term} {C n d : String} {u : Addr} {v : Int64} (ev : t.eval args Z none [] Z = some (.ref u)) (h : (Cond.eq (Term.field t C n d) (Term.long v)).before args Z = true) : Fld Z Z.heap u C n d (.long v) := by
  have q := Cond.before_iff.mp h
  refine Fld.start ((fld_at ev).symm.trans ?_)
  cases e : (Term.field t C n d).eval args Z none [] Z with
  | none => simp [Cond.value, e] at q
  | some w =>
    simp only [Cond.value, e, show (Term.long v).eval args Z none [] Z = some (.long v) from rfl] at q
    cases w <;> simp at q
    rw [q]
theorem own_statI {Z : State} {args : Array Value} {t : Term} {C n d : String} {u : Addr} {v : Int32} (ev : t.eval args Z none [] Z = some (.ref u)) (h : (Cond.eq (Term.field t C n d) (Term.int v)).before args Z = true) : Fld Z Z.heap u C n d (.int v) := by
  have q := Cond.before_iff.mp h
  refine Fld.start ((fld_at ev).symm.trans ?_)
  cases e : (Term.field t C n d).eval args Z none [] Z with
  | none => simp [Cond.value, e] at q
  | some w =>
    simp only [Cond.value, e, show (Term.int v).eval args Z none [] Z = some (.int v) from rfl] at q
    cases w <;> simp at q
    rw [q]
end New
end Jvm.RoadKit
namespace Jvm.Pilot.@@N@@
open Jvm Jvm.ClassFile Sem Op Lib Jvm.Free Jvm.Stand Jvm.LawKit Jvm.RoadKit Bundle Jvm.Free.Fl Jvm.Pilot.@@N@@.Jvm.D
theorem own_W {a0 : Array Value} {Z : State} (hw : ∀ d ∈ tables_1, d.before a0 Z = true) (i : Nat) {d : Jvm.Cond} (h : tables_1[i]? = some d) : d.before a0 Z = true := hw _ (List.mem_of_getElem? h)
/-! my own laws on doubles: a result is a rounding of its exact value (monotone), exactness, the order -/
section OwnFloat
open Jvm.FP Jvm.FP.Core
/-- the value in units of 2^-1074 -/
def own_zv (a : UInt64) : Int := Core.zval Core.b64 (Core.val64 a)
abbrev own_U : Int := (Core.one64 : Int)
theorem own_U_pos : 0 < own_U := Int.natCast_pos.mpr Core.one64_pos
/-- r is N / D, rounded, as far as the order goes -/
def own_rnd (N D : Int) (r : UInt64) : Prop :=
  Core.val64 r ≠ .nan ∧ (∀ V, Core.val64 V ≠ .nan → own_zv V * D ≤ N → own_zv V ≤ own_zv r) ∧ (∀ V, Core.val64 V ≠ .nan → N ≤ own_zv V * D → own_zv r ≤ own_zv V)
theorem own_fin_ne {a : UInt64} (h : Core.DFin a) : Core.val64 a ≠ .nan := h.ne_nan
theorem own_pow0 : (2 : Nat) ^ (Core.b64.qmin - Core.b64.qmin).toNat = 1 := by rw [Int.sub_self]; rfl
theorem own_rnd_of_round {x : UInt64} {sg : Bool} {n : Nat} {e e0 : Int} (hx : Core.val64 x = Core.round Core.b64 (.fin sg n e)) (h0 : e0 ≤ Core.b64.qmin) (h0e : e0 ≤ e) :
    own_rnd (Core.signed sg (Core.inUnits n e e0)) (((2 ^ (Core.b64.qmin - e0).toNat : Nat) : Int)) x := by
  refine ⟨?_, fun V hV h => ?_, fun V hV h => ?_⟩
  · rw [hx]; intro q; have := Core.round_nan.mp q; cases this
  · have := Core.zval_round_ge Core.good_b64 (s := sg) (c := n) (q := e) (e0 := e0) (V := Core.val64 V) (Core.val64_fits V) hV h0 h0e h
    unfold own_zv; rw [hx]; exact this
  · have := Core.zval_round_le Core.good_b64 (s := sg) (c := n) (q := e) (e0 := e0) (V := Core.val64 V) (Core.val64_fits V) hV h0 h0e h
    unfold own_zv; rw [hx]; exact this
theorem own_dadd_rnd {a b : UInt64} (ha : Core.DFin a) (hb : Core.DFin b) : own_rnd (own_zv a + own_zv b) 1 (FP.dadd a b) := by
  obtain ⟨s, c, q, ea⟩ := ha
  obtain ⟨t, d, r, eb⟩ := hb
  have fa := Core.val64_fits a; have fb := Core.val64_fits b
  rw [ea] at fa; rw [eb] at fb
  obtain ⟨sg, n, e, h1, h2, h3⟩ := Core.sum_units fa fb
  have hv : Core.val64 (FP.dadd a b) = Core.round Core.b64 (.fin sg n e) := by
    show Core.val64 (Core.dadd a b) = _
    rw [Core.val64_dadd, ea, eb, h1]
  have := own_rnd_of_round hv (Int.le_refl _) h2
  rw [h3, own_pow0] at this
  unfold own_zv; rw [ea, eb]; exact this
theorem own_zv_dneg (a : UInt64) : own_zv (Core.dneg a) = -own_zv a := by
  unfold own_zv; rw [Core.val64_dneg, Core.zval_negate]
theorem own_fin_dneg {a : UInt64} (ha : Core.DFin a) : Core.DFin (Core.dneg a) := by
  obtain ⟨s, c, q, ea⟩ := ha
  exact ⟨!s, c, q, by rw [Core.val64_dneg, ea]; rfl⟩
theorem own_dneg_zv {a : UInt64} (ha : Core.DFin a) : Core.DFin (FP.dneg a) ∧ own_zv (FP.dneg a) = -own_zv a := by
  rw [FP.dneg_core ha.notNaN]; exact ⟨own_fin_dneg ha, own_zv_dneg a⟩
theorem own_dsub_rnd {a b : UInt64} (ha : Core.DFin a) (hb : Core.DFin b) : own_rnd (own_zv a - own_zv b) 1 (FP.dsub a b) := by
  have h := own_dadd_rnd ha (own_fin_dneg hb)
  rw [own_zv_dneg] at h
  have e : FP.dsub a b = FP.dadd a (Core.dneg b) := Core.dsub_eq a b
  rw [e, Int.sub_eq_add_neg]; exact h
theorem own_dmul_rnd {a b : UInt64} (ha : Core.DFin a) (hb : Core.DFin b) : own_rnd (own_zv a * own_zv b) own_U (FP.dmul a b) := by
  obtain ⟨s, c, q, ea⟩ := ha
  obtain ⟨t, d, r, eb⟩ := hb
  have fa := Core.val64_fits a; have fb := Core.val64_fits b
  rw [ea] at fa; rw [eb] at fb
  obtain ⟨h1, h2, h3⟩ := Core.product_units fa fb
  have hv : Core.val64 (FP.dmul a b) = Core.round Core.b64 (.fin (s != t) (c * d) (q + r)) := by
    show Core.val64 (Core.dmul a b) = _
    rw [Core.val64_dmul, ea, eb, h1]
  have hq := Core.qmin_neg Core.good_b64
  have := own_rnd_of_round (e0 := 2 * Core.b64.qmin) hv (by omega) h2
  rw [h3, Core.signed_xor, show Core.b64.qmin - 2 * Core.b64.qmin = -Core.b64.qmin by omega, Core.pow_qmin64] at this
  unfold own_zv; rw [ea, eb]; exact this
theorem own_ddiv_rnd {a b : UInt64} (ha : Core.DFin a) (hb : Core.DFin b) (hz : own_zv b ≠ 0) : own_rnd (if 0 < own_zv b then own_zv a * own_U else -(own_zv a * own_U)) (own_zv b).natAbs (FP.ddiv a b) := by
  obtain ⟨s, c, q, ea⟩ := ha
  obtain ⟨t, d, r, eb⟩ := hb
  have fa := Core.val64_fits a; have fb := Core.val64_fits b
  rw [ea] at fa; rw [eb] at fb
  have hq1 := fa.2.1; have hq2 := fb.2.1
  have hqm := Core.qmin_neg Core.good_b64
  have zb : own_zv b = Core.signed t (Core.inUnits d r Core.b64.qmin) := by unfold own_zv; rw [eb]; rfl
  have za : own_zv a = Core.signed s (Core.inUnits c q Core.b64.qmin) := by unfold own_zv; rw [ea]; rfl
  have d0 : d ≠ 0 := fun h => hz (by rw [zb, h]; unfold Core.inUnits; rw [Nat.zero_mul]; exact Core.signed_zero t)
  have hB : 0 < Core.inUnits d r Core.b64.qmin := Nat.mul_pos (Nat.pos_of_ne_zero d0) (Nat.two_pow_pos _)
  have hv : Core.val64 (FP.ddiv a b) = Core.roundRatio Core.b64 (s != t) c d (q - r) := by
    show Core.val64 (Core.ddiv a b) = _
    rw [Core.val64_ddiv, ea, eb]; show (if d = 0 then _ else _) = _; rw [if_neg d0]
  have e1 : Core.inUnits c (q - r) (Core.b64.qmin - (r - Core.b64.qmin)) = Core.inUnits c q Core.b64.qmin * Core.one64 := by
    unfold Core.inUnits
    rw [← Core.pow_qmin64, Nat.mul_assoc, ← Nat.pow_add, show (q - r - (Core.b64.qmin - (r - Core.b64.qmin))).toNat = (q - Core.b64.qmin).toNat + (-Core.b64.qmin).toNat by omega]
  have e2 : ∀ v : Nat, v * 2 ^ (Core.b64.qmin - (Core.b64.qmin - (r - Core.b64.qmin))).toNat * d = v * Core.inUnits d r Core.b64.qmin := fun v => by
    unfold Core.inUnits
    rw [show Core.b64.qmin - (Core.b64.qmin - (r - Core.b64.qmin)) = r - Core.b64.qmin by omega, Nat.mul_assoc, Nat.mul_comm (2 ^ _) d]
  have hle : ∀ V : Core.Datum, Core.fits Core.b64 V → V ≠ .nan → Core.inUnits c q Core.b64.qmin * Core.one64 ≤ Core.zmag Core.b64 V * Core.inUnits d r Core.b64.qmin → Core.zmag Core.b64 (Core.roundRatio Core.b64 (s != t) c d (q - r)) ≤ Core.zmag Core.b64 V := fun V hV hn h =>
    Core.zmag_roundRatio_le Core.good_b64 (e0 := Core.b64.qmin - (r - Core.b64.qmin)) (Nat.pos_of_ne_zero d0) hV hn (by omega) (by omega) (by rw [e1, e2]; exact h)
  have hge : ∀ V : Core.Datum, Core.fits Core.b64 V → V ≠ .nan → Core.zmag Core.b64 V * Core.inUnits d r Core.b64.qmin ≤ Core.inUnits c q Core.b64.qmin * Core.one64 → Core.zmag Core.b64 V ≤ Core.zmag Core.b64 (Core.roundRatio Core.b64 (s != t) c d (q - r)) := fun V hV hn h =>
    Core.zmag_roundRatio_ge Core.good_b64 (e0 := Core.b64.qmin - (r - Core.b64.qmin)) (Nat.pos_of_ne_zero d0) hV (by omega) (by omega) (by rw [e1, e2]; exact h)
  have zr : own_zv (FP.ddiv a b) = Core.signed (s != t) (Core.zmag Core.b64 (Core.roundRatio Core.b64 (s != t) c d (q - r))) := by
    unfold own_zv; rw [hv]; unfold Core.zval; rw [Core.sgn_roundRatio]
  have hN : (if 0 < own_zv b then own_zv a * own_U else -(own_zv a * own_U)) = Core.signed (s != t) (Core.inUnits c q Core.b64.qmin * Core.one64) := by
    rw [zb, za, ← Core.signed_mul]
    cases s <;> cases t <;> simp only [Core.signed, if_true, if_false, Bool.false_eq_true, bne_self_eq_false, Bool.true_bne, Bool.false_bne, Bool.not_false, Bool.not_true] <;> split <;> omega
  have hD : ((own_zv b).natAbs : Int) = (Core.inUnits d r Core.b64.qmin : Nat) := by rw [zb, Core.natAbs_signed]
  have hzz : ∀ v : Nat, v * Core.inUnits d r Core.b64.qmin = 0 → v = 0 := fun v h => by rcases Nat.mul_eq_zero.mp h with h | h <;> omega
  rw [hN, hD]
  refine ⟨by rw [hv]; exact Core.roundRatio_ne_nan _ _ _ _ _, fun V hV h => ?_, fun V hV h => ?_⟩
  all_goals
    have h1 := hle _ (Core.val64_fits V) hV; have h2 := hge _ (Core.val64_fits V) hV; have h3 := hzz (Core.zmag Core.b64 (Core.val64 V))
    rw [zr]
    rw [show own_zv V = Core.signed (Core.sgn (Core.val64 V)) (Core.zmag Core.b64 (Core.val64 V)) from rfl] at h ⊢
    rw [← Core.signed_mul] at h
    generalize Core.zmag Core.b64 (Core.val64 V) * Core.inUnits d r Core.b64.qmin = vP at *
    generalize Core.inUnits c q Core.b64.qmin * Core.one64 = A at *
    generalize Core.sgn (Core.val64 V) = tV at *
    generalize (s != t) = st at *
    cases st <;> cases tV <;> simp only [Core.signed, if_true, Bool.false_eq_true, if_false] at h ⊢
    all_goals first
      | omega
      | (have := h1 (by omega); omega)
      | (have := h2 (by omega); omega)
      | (have := h1 (by omega); have := h3 (by omega); omega)
      | (have := h2 (by omega); have := h3 (by omega); omega)
/-- numbers of 53 digits are doubles -/
theorem own_rep (c : Int) (j : Nat) (hc : c.natAbs < 2 ^ 53) (hj : j ≤ 2045) : ∃ V, Core.DFin V ∧ own_zv V = c * ((2 ^ j : Nat) : Int) := by
  have hq1 : Core.b64.qmin = -1074 := Core.qmin_b64
  have hq2 : Core.b64.qmax = 971 := by decide
  obtain ⟨c', q', h1, h2⟩ := Core.round_exact Core.good_b64 (decide (c < 0)) (c := c.natAbs) (q := Core.b64.qmin + j) hc (by omega) (by omega)
  have hv : Core.val64 (Core.of64 (Core.round Core.b64 (.fin (decide (c < 0)) c.natAbs (Core.b64.qmin + j)))) = .fin (decide (c < 0)) c' q' := by
    rw [Core.val64_of64 (Core.round_fits Core.good_b64 _), h1]
  refine ⟨_, ⟨_, _, _, hv⟩, ?_⟩
  unfold own_zv; rw [hv]
  show Core.signed (decide (c < 0)) (Core.inUnits c' q' Core.b64.qmin) = _
  rw [h2]; unfold Core.inUnits
  rw [Core.signed_mul, show (Core.b64.qmin + (j : Int) - Core.b64.qmin).toNat = j by omega]
  congr 1
  by_cases h : c < 0
  · simp only [Core.signed, h, decide_true, if_true]; omega
  · simp only [Core.signed, h, decide_false, Bool.false_eq_true, if_false]; omega
theorem own_zv_lt {a : UInt64} (h : Core.DFin a) : (own_zv a).natAbs < Core.b64.tails * 2 ^ (Core.b64.exps - 2) := by
  have := Core.DFin.zval_lt h
  unfold own_zv Core.zval; rw [Core.natAbs_signed]; exact this
theorem own_fin_of {r V : UInt64} (hr : Core.val64 r ≠ .nan) (hV : Core.DFin V) (h : (own_zv r).natAbs ≤ (own_zv V).natAbs) : Core.DFin r := by
  cases e : Core.val64 r with
  | nan => exact absurd e hr
  | inf s =>
    have h1 := own_zv_lt hV
    have h2 : (own_zv r).natAbs = Core.b64.tails * 2 ^ (Core.b64.exps - 2) := by unfold own_zv Core.zval; rw [Core.natAbs_signed, e]; rfl
    omega
  | fin s c q => exact ⟨s, c, q, e⟩
/-- what is representable is not rounded -/
theorem own_exactV {N D : Int} {r V : UInt64} (h : own_rnd N D r) (hV : Core.DFin V) (e : own_zv V * D = N) : Core.DFin r ∧ own_zv r = own_zv V := by
  have h1 := h.2.1 V hV.ne_nan (by omega)
  have h2 := h.2.2 V hV.ne_nan (by omega)
  have h3 : own_zv r = own_zv V := by omega
  exact ⟨own_fin_of h.1 hV (by rw [h3]; exact Nat.le_refl _), h3⟩
theorem own_exact {N D : Int} {r : UInt64} (h : own_rnd N D r) (c : Int) (j : Nat) (hc : c.natAbs < 2 ^ 53) (hj : j ≤ 2045) (e : c * ((2 ^ j : Nat) : Int) * D = N) : Core.DFin r ∧ own_zv r = c * ((2 ^ j : Nat) : Int) := by
  obtain ⟨V, f, z⟩ := own_rep c j hc hj
  rw [← z] at e ⊢
  exact own_exactV h f e
/-! the order -/
theorem own_dcmp {a b : UInt64} (ha : Core.val64 a ≠ .nan) (hb : Core.val64 b ≠ .nan) : FP.dcmp a b = some (compare (own_zv a) (own_zv b)) := Core.dcmp_zval ha hb
theorem own_cmpv {a b : UInt64} (ha : Core.val64 a ≠ .nan) (hb : Core.val64 b ≠ .nan) (o : CmpOp) : cmpValue (FP.dcmp a b) o = if own_zv a < own_zv b then -1 else if own_zv a = own_zv b then 0 else 1 := by
  rw [own_dcmp ha hb, Core.compare_ite]
  by_cases h1 : own_zv a < own_zv b
  · simp only [h1, if_true]; cases o <;> rfl
  · by_cases h2 : own_zv a = own_zv b
    · simp only [h2, Int.lt_irrefl, if_true, if_false]; cases o <;> rfl
    · simp only [h1, h2, if_false]; cases o <;> rfl
theorem own_cmp_le {a b : UInt64} (ha : Core.val64 a ≠ .nan) (hb : Core.val64 b ≠ .nan) (h : own_zv a ≤ own_zv b) (o : CmpOp) : ¬ ((0 : Int32) < cmpValue (FP.dcmp a b) o) := by
  rw [own_cmpv ha hb]
  by_cases h1 : own_zv a < own_zv b
  · rw [if_pos h1]; decide
  · rw [if_neg h1, if_pos (by omega)]; decide
theorem own_cmp_ge {a b : UInt64} (ha : Core.val64 a ≠ .nan) (hb : Core.val64 b ≠ .nan) (h : own_zv b ≤ own_zv a) (o : CmpOp) : ¬ (cmpValue (FP.dcmp a b) o < (0 : Int32)) := by
  rw [own_cmpv ha hb, if_neg (by omega)]
  by_cases h1 : own_zv a = own_zv b
  · rw [if_pos h1]; decide
  · rw [if_neg h1]; decide
theorem own_cmp_lt {a b : UInt64} (ha : Core.val64 a ≠ .nan) (hb : Core.val64 b ≠ .nan) (h : own_zv a < own_zv b) (o : CmpOp) : cmpValue (FP.dcmp a b) o < (0 : Int32) := by
  rw [own_cmpv ha hb, if_pos h]; decide
theorem own_cmp_gt {a b : UInt64} (ha : Core.val64 a ≠ .nan) (hb : Core.val64 b ≠ .nan) (h : own_zv b < own_zv a) (o : CmpOp) : (0 : Int32) < cmpValue (FP.dcmp a b) o := by
  rw [own_cmpv ha hb, if_neg (by omega), if_neg (by omega)]; decide
theorem own_cmp_eq {a b : UInt64} (ha : Core.val64 a ≠ .nan) (hb : Core.val64 b ≠ .nan) (h : own_zv a = own_zv b) (o : CmpOp) : cmpValue (FP.dcmp a b) o = (0 : Int32) := by
  rw [own_cmpv ha hb, if_neg (by omega), if_pos h]
theorem own_cmp_ne {a b : UInt64} (ha : Core.val64 a ≠ .nan) (hb : Core.val64 b ≠ .nan) (h : own_zv a ≠ own_zv b) (o : CmpOp) : ¬ (cmpValue (FP.dcmp a b) o = (0 : Int32)) := by
  rw [own_cmpv ha hb]
  by_cases h1 : own_zv a < own_zv b
  · rw [if_pos h1]; decide
  · rw [if_neg h1, if_neg h]; decide
/-! no NaN -/
theorem own_nn {a : UInt64} (h : Core.val64 a ≠ .nan) : NoNaN64 a := noNaN64_no.mpr ((Core.notNaN_iff a).mpr h)
theorem own_rnd_nn {N D : Int} {r : UInt64} (h : own_rnd N D r) : NoNaN64 r := own_nn h.1
theorem own_fin_nn {a : UInt64} (h : Core.DFin a) : NoNaN64 a := own_nn h.ne_nan
/-! whole numbers -/
theorem own_i2d (x : Int32) : Core.DFin (FP.i2d x) ∧ own_zv (FP.i2d x) = x.toInt * own_U := ⟨Core.i2d_fin x, Core.DInt_zval (Core.i2d_int x)⟩
theorem own_l2d {x : Int64} (h : x.toInt.natAbs ≤ 2 ^ 53) : Core.DFin (FP.l2d x) ∧ own_zv (FP.l2d x) = x.toInt * own_U := ⟨Core.l2d_fin x, Core.DInt_zval (Core.l2d_int h)⟩
theorem own_U_eq : own_U = ((2 ^ 1074 : Nat) : Int) := rfl
end OwnFloat
section OwnFloat2
open Jvm.FP Jvm.FP.Core
theorem own_lt_U {i j : Int} : i * own_U < j * own_U ↔ i < j := by
  have h := own_U_pos
  constructor
  · intro q; exact Int.lt_of_mul_lt_mul_right q (Int.le_of_lt h)
  · intro q; exact Int.mul_lt_mul_of_pos_right q h
theorem own_eq_U {i j : Int} : i * own_U = j * own_U ↔ i = j := by
  have h := own_U_pos
  constructor
  · intro q; exact Int.eq_of_mul_eq_mul_right (by omega) q
  · intro q; rw [q]
/-- a is the whole number i -/
def own_is (i : Int) (a : UInt64) : Prop := Core.DFin a ∧ own_zv a = i * own_U
theorem own_is_i2d (x : Int32) : own_is x.toInt (FP.i2d x) := own_i2d x
theorem own_is_neg0 : own_is 0 (9223372036854775808 : UInt64) := ⟨by rw [Core.fin_bits]; decide, by decide +kernel⟩
theorem own_is_0 : own_is 0 (0 : UInt64) := ⟨by rw [Core.fin_bits]; decide, by decide +kernel⟩
theorem own_cmpU {a b : UInt64} {i j : Int} (ha : own_is i a) (hb : own_is j b) (o : CmpOp) : cmpValue (FP.dcmp a b) o = if i < j then -1 else if i = j then 0 else 1 := by
  rw [own_cmpv ha.1.ne_nan hb.1.ne_nan, ha.2, hb.2]; simp only [own_lt_U, own_eq_U]
end OwnFloat2
section OwnFloat3
open Jvm.FP Jvm.FP.Core
theorem own_is_dneg {i : Int} {a : UInt64} (h : own_is i a) : own_is (-i) (FP.dneg a) := by
  obtain ⟨f, z⟩ := own_dneg_zv h.1
  exact ⟨f, by rw [z, h.2, Int.neg_mul]⟩
theorem own_self {a : UInt64} (h : Core.DFin a) (o : CmpOp) : cmpValue (FP.dcmp a a) o = (0 : Int32) := own_cmp_eq h.ne_nan h.ne_nan rfl o
/-- x - x is nought -/
theorem own_dsub_self {a : UInt64} (h : Core.DFin a) : FP.dsub a a = 0 := by
  obtain ⟨s, c, q, e⟩ := h
  exact Core.dsub_self e
end OwnFloat3
section OwnFloat4
open Jvm.FP Jvm.FP.Core
theorem own_rep_le (c : Int) (j : Nat) (hc : c.natAbs ≤ 2 ^ 53) (hj : j ≤ 2044) : ∃ V, Core.DFin V ∧ own_zv V = c * ((2 ^ j : Nat) : Int) := by
  by_cases h : c.natAbs < 2 ^ 53
  · exact own_rep c j h (by omega)
  · obtain ⟨V, f, z⟩ := own_rep (c / 2) (j + 1) (by omega) (by omega)
    refine ⟨V, f, ?_⟩
    rw [z, Nat.pow_succ, Int.natCast_mul]
    have : c = c / 2 * 2 := by omega
    rw [Int.mul_comm ((2 ^ j : Nat) : Int), ← Int.mul_assoc]
    have e : c / 2 * ((2 : Nat) : Int) = c := by omega
    rw [e]
theorem own_rnd_scale {N D k : Int} {r : UInt64} (hk : 0 < k) (h : own_rnd (N * k) (D * k) r) : own_rnd N D r := by
  refine ⟨h.1, fun V hV q => h.2.1 V hV ?_, fun V hV q => h.2.2 V hV ?_⟩
  · rw [← Int.mul_assoc]; exact Int.mul_le_mul_of_nonneg_right q (Int.le_of_lt hk)
  · rw [← Int.mul_assoc]; exact Int.mul_le_mul_of_nonneg_right q (Int.le_of_lt hk)
/-- the relative error, one unit in the last place at the most -/
theorem own_rel {N D : Int} {r : UInt64} (h : own_rnd N D r) (hD : 0 < D) (lo : 4503599627370496 * D ≤ N) (hi : N / D < ((2 ^ 2096 : Nat) : Int)) :
    Core.DFin r ∧ 4503599627370496 * (own_zv r * D - N) ≤ N ∧ 4503599627370496 * (N - own_zv r * D) ≤ N := by
  have hM : 4503599627370496 ≤ N / D := Int.le_ediv_of_mul_le hD lo
  obtain ⟨m, hm⟩ : ∃ m : Nat, N / D = (m : Int) := ⟨(N / D).toNat, by omega⟩
  have hN := Int.mul_ediv_add_emod N D
  have hr0 := Int.emod_nonneg N (show D ≠ 0 by omega)
  have hr1 := Int.emod_lt_of_pos N hD
  have m0 : m ≠ 0 := by omega
  have l1 : 2 ^ m.log2 ≤ m := Nat.log2_self_le m0
  have l2 : m < 2 ^ (m.log2 + 1) := Nat.lt_log2_self
  have l3 : 52 ≤ m.log2 := by
    apply Nat.le_of_lt_succ
    apply (Nat.pow_lt_pow_iff_right (by decide : 1 < 2)).mp
    exact Nat.lt_of_le_of_lt (show 2 ^ 52 ≤ m by omega) l2
  have l4 : m.log2 < 2096 := by
    apply (Nat.pow_lt_pow_iff_right (by decide : 1 < 2)).mp
    exact Nat.lt_of_le_of_lt l1 (by rw [hm] at hi; exact Int.ofNat_lt.mp hi)
  obtain ⟨e, he⟩ : ∃ e, m.log2 = e + 52 := ⟨m.log2 - 52, by omega⟩
  have hg : 0 < 2 ^ e := Nat.two_pow_pos e
  have p1 : 2 ^ m.log2 = 2 ^ e * 4503599627370496 := by rw [he, Nat.pow_add]
  have p2 : 2 ^ (m.log2 + 1) = 2 ^ e * 9007199254740992 := by rw [he, Nat.pow_add, Nat.pow_add]; omega
  have dm := Nat.div_add_mod m (2 ^ e)
  have ml := Nat.mod_lt m hg
  have k1 : 4503599627370496 ≤ m / 2 ^ e := (Nat.le_div_iff_mul_le hg).mpr (by rw [Nat.mul_comm]; omega)
  have k2 : m / 2 ^ e < 9007199254740992 := (Nat.div_lt_iff_lt_mul hg).mpr (by rw [Nat.mul_comm]; omega)
  obtain ⟨V1, f1, z1⟩ := own_rep_le ((m / 2 ^ e : Nat) : Int) e (by omega) (by omega)
  obtain ⟨V2, f2, z2⟩ := own_rep_le ((m / 2 ^ e + 1 : Nat) : Int) e (by omega) (by omega)
  have a1 : ((m / 2 ^ e : Nat) : Int) * ((2 ^ e : Nat) : Int) ≤ (m : Int) := by rw [← Int.natCast_mul]; exact Int.ofNat_le.mpr (Nat.div_mul_le_self _ _)
  have a2 : (m : Int) + 1 ≤ ((m / 2 ^ e + 1 : Nat) : Int) * ((2 ^ e : Nat) : Int) := by
    rw [← Int.natCast_mul]; have : m + 1 ≤ (m / 2 ^ e + 1) * 2 ^ e := by rw [Nat.add_mul, Nat.one_mul, Nat.mul_comm]; omega
    exact Int.ofNat_le.mpr this
  have a3 : ((m / 2 ^ e + 1 : Nat) : Int) * ((2 ^ e : Nat) : Int) = ((m / 2 ^ e : Nat) : Int) * ((2 ^ e : Nat) : Int) + ((2 ^ e : Nat) : Int) := by
    rw [Int.natCast_add, Int.add_mul]; simp
  have a4 : 4503599627370496 * ((2 ^ e : Nat) : Int) ≤ (m : Int) := by
    have : 2 ^ e * 4503599627370496 ≤ m := by omega
    omega
  have b1 : own_zv V1 * D ≤ N := by
    rw [z1]; have := Int.mul_le_mul_of_nonneg_right a1 (Int.le_of_lt hD); rw [hm, Int.mul_comm] at hN; omega
  have b2 : N ≤ own_zv V2 * D := by
    rw [z2]; have := Int.mul_le_mul_of_nonneg_right a2 (Int.le_of_lt hD); rw [Int.add_mul, Int.one_mul] at this; rw [hm, Int.mul_comm] at hN; omega
  have c1 := h.2.1 V1 f1.ne_nan b1
  have c2 := h.2.2 V2 f2.ne_nan b2
  rw [z1] at c1 b1; rw [z2] at c2 b2
  have d1 := Int.mul_le_mul_of_nonneg_right c1 (Int.le_of_lt hD)
  have d2 := Int.mul_le_mul_of_nonneg_right c2 (Int.le_of_lt hD)
  have d3 := Int.mul_le_mul_of_nonneg_right a4 (Int.le_of_lt hD)
  rw [a3, Int.add_mul] at d2 b2
  have d4 : (m : Int) * D ≤ N := by rw [hm, Int.mul_comm] at hN; omega
  rw [Int.mul_assoc] at d3
  refine ⟨own_fin_of h.1 f2 ?_, by omega, by omega⟩
  rw [z2]
  have s0 : 0 ≤ ((m / 2 ^ e : Nat) : Int) * ((2 ^ e : Nat) : Int) := Int.mul_nonneg (Int.natCast_nonneg _) (Int.natCast_nonneg _)
  omega
theorem own_is_mul {i j : Int} {a b : UInt64} (ha : own_is i a) (hb : own_is j b) (h : (i * j).natAbs < 2 ^ 53) : own_is (i * j) (FP.dmul a b) := by
  refine own_exact (own_dmul_rnd ha.1 hb.1) (i * j) 1074 h (by decide) ?_
  rw [ha.2, hb.2, ← own_U_eq]; simp only [Int.mul_assoc, Int.mul_comm, Int.mul_left_comm]
theorem own_is_add {i j : Int} {a b : UInt64} (ha : own_is i a) (hb : own_is j b) (h : (i + j).natAbs < 2 ^ 53) : own_is (i + j) (FP.dadd a b) := by
  refine own_exact (own_dadd_rnd ha.1 hb.1) (i + j) 1074 h (by decide) ?_
  rw [ha.2, hb.2, ← own_U_eq, Int.mul_one, Int.add_mul]
theorem own_is_sub {i j : Int} {a b : UInt64} (ha : own_is i a) (hb : own_is j b) (h : (i - j).natAbs < 2 ^ 53) : own_is (i - j) (FP.dsub a b) := by
  refine own_exact (own_dsub_rnd ha.1 hb.1) (i - j) 1074 h (by decide) ?_
  rw [ha.2, hb.2, ← own_U_eq, Int.mul_one, Int.sub_mul]
theorem own_is_l2d {x : Int64} (h : x.toInt.natAbs ≤ 2 ^ 53) : own_is x.toInt (FP.l2d x) := own_l2d h
/-- the quotient of two whole numbers, the divisor positive -/
theorem own_is_div_rnd {i j : Int} {a b : UInt64} (ha : own_is i a) (hb : own_is j b) (hj : 0 < j) : own_rnd (i * own_U) j (FP.ddiv a b) := by
  have hU := own_U_pos
  have hz : 0 < own_zv b := by rw [hb.2]; exact Int.mul_pos hj hU
  have h := own_ddiv_rnd ha.1 hb.1 (by omega)
  rw [if_pos hz, Int.natAbs_of_nonneg (Int.le_of_lt hz), ha.2, hb.2] at h
  exact own_rnd_scale hU h
end OwnFloat4
section OwnFloat5
open Jvm.FP Jvm.FP.Core
/-- a is c * 2^(j - 1074) -/
def own_at (c : Int) (j : Nat) (a : UInt64) : Prop := Core.DFin a ∧ own_zv a = c * ((2 ^ j : Nat) : Int)
theorem own_at_is {i : Int} {a : UInt64} (h : own_is i a) : own_at i 1074 a := h
theorem own_at_add {c1 c2 : Int} {j : Nat} {a b : UInt64} (ha : own_at c1 j a) (hb : own_at c2 j b) (h : (c1 + c2).natAbs < 2 ^ 53) (hj : j ≤ 2045) : own_at (c1 + c2) j (FP.dadd a b) := by
  refine own_exact (own_dadd_rnd ha.1 hb.1) (c1 + c2) j h hj ?_
  rw [ha.2, hb.2, Int.mul_one, Int.add_mul]
theorem own_at_sub {c1 c2 : Int} {j : Nat} {a b : UInt64} (ha : own_at c1 j a) (hb : own_at c2 j b) (h : (c1 - c2).natAbs < 2 ^ 53) (hj : j ≤ 2045) : own_at (c1 - c2) j (FP.dsub a b) := by
  refine own_exact (own_dsub_rnd ha.1 hb.1) (c1 - c2) j h hj ?_
  rw [ha.2, hb.2, Int.mul_one, Int.sub_mul]
theorem own_at_mul {c1 c2 : Int} {j1 j2 : Nat} {a b : UInt64} (ha : own_at c1 j1 a) (hb : own_at c2 j2 b) (j : Nat) (e : j1 + j2 = j + 1074) (h : (c1 * c2).natAbs < 2 ^ 53) (hj : j ≤ 2045) : own_at (c1 * c2) j (FP.dmul a b) := by
  refine own_exact (own_dmul_rnd ha.1 hb.1) (c1 * c2) j h hj ?_
  have p : ((2 ^ j : Nat) : Int) * own_U = ((2 ^ j1 : Nat) : Int) * ((2 ^ j2 : Nat) : Int) := by rw [own_U_eq, ← Int.natCast_mul, ← Int.natCast_mul, ← Nat.pow_add, ← Nat.pow_add, e]
  rw [ha.2, hb.2, Int.mul_assoc (c1 * c2), p]; simp only [Int.mul_assoc, Int.mul_comm, Int.mul_left_comm]
/-- a quotient that is exact -/
theorem own_at_div {c1 c2 c : Int} {j1 j2 : Nat} {a b : UInt64} (ha : own_at c1 j1 a) (hb : own_at c2 j2 b) (hc : 0 < c2) (j : Nat) (e : c * c2 * ((2 ^ (j + j2) : Nat) : Int) = c1 * ((2 ^ (j1 + 1074) : Nat) : Int)) (h : c.natAbs < 2 ^ 53) (hj : j ≤ 2045) : own_at c j (FP.ddiv a b) := by
  have hz : 0 < own_zv b := by rw [hb.2]; exact Int.mul_pos hc (Int.natCast_pos.mpr (Nat.two_pow_pos _))
  have hr := own_ddiv_rnd ha.1 hb.1 (by omega)
  rw [if_pos hz, Int.natAbs_of_nonneg (Int.le_of_lt hz)] at hr
  refine own_exact hr c j h hj ?_
  rw [ha.2, hb.2, own_U_eq]
  rw [Nat.pow_add, Nat.pow_add, Int.natCast_mul, Int.natCast_mul] at e
  have l : c * ((2 ^ j : Nat) : Int) * (c2 * ((2 ^ j2 : Nat) : Int)) = c * c2 * (((2 ^ j : Nat) : Int) * ((2 ^ j2 : Nat) : Int)) := by simp only [Int.mul_assoc, Int.mul_comm, Int.mul_left_comm]
  rw [l, e, Int.mul_assoc]
theorem own_at_up {c : Int} {j i : Nat} {a : UInt64} (h : own_at c (j + i) a) : own_at (c * ((2 ^ i : Nat) : Int)) j a :=
  ⟨h.1, by rw [h.2, Nat.pow_add, Int.natCast_mul, Int.mul_assoc, Int.mul_comm ((2 ^ i : Nat) : Int)]⟩
theorem own_at_dn {c : Int} {j i : Nat} {a : UInt64} (h : own_at (c * ((2 ^ i : Nat) : Int)) j a) : own_at c (j + i) a :=
  ⟨h.1, by rw [h.2, Nat.pow_add, Int.natCast_mul, Int.mul_assoc, Int.mul_comm ((2 ^ i : Nat) : Int)]⟩
theorem own_at_eq {c : Int} {j : Nat} {a b : UInt64} (ha : own_at c j a) (hb : own_at c j b) (o : CmpOp) : cmpValue (FP.dcmp a b) o = (0 : Int32) := own_cmp_eq ha.1.ne_nan hb.1.ne_nan (by rw [ha.2, hb.2]) o
theorem own_at_nn {c : Int} {j : Nat} {a : UInt64} (h : own_at c j a) : NoNaN64 a := own_fin_nn h.1
end OwnFloat5
section OwnFloat6
open Jvm.FP Jvm.FP.Core
theorem own_is_div {k j : Int} {a b : UInt64} (ha : own_is (k * j) a) (hb : own_is j b) (hj : j ≠ 0) (h : k.natAbs < 2 ^ 53) : own_is k (FP.ddiv a b) := by
  have hU := own_U_pos
  have hz : own_zv b ≠ 0 := by rw [hb.2]; intro q; rcases Int.mul_eq_zero.mp q with q | q <;> omega
  refine own_exact (own_ddiv_rnd ha.1 hb.1 hz) k 1074 h (by decide) ?_
  rw [← own_U_eq]
  by_cases q : 0 < own_zv b
  · rw [if_pos q, Int.natAbs_of_nonneg (Int.le_of_lt q), ha.2, hb.2]; simp only [Int.mul_assoc, Int.mul_comm, Int.mul_left_comm]
  · rw [if_neg q]
    have e : ((own_zv b).natAbs : Int) = -own_zv b := by omega
    rw [e, ha.2, hb.2, Int.mul_neg]; congr 1; simp only [Int.mul_assoc, Int.mul_comm, Int.mul_left_comm]
theorem own_fin_between {r V1 V2 : UInt64} (hr : Core.val64 r ≠ .nan) (h1 : Core.DFin V1) (h2 : Core.DFin V2) (a : own_zv V1 ≤ own_zv r) (b : own_zv r ≤ own_zv V2) : Core.DFin r := by
  by_cases q : (own_zv r).natAbs ≤ (own_zv V1).natAbs
  · exact own_fin_of hr h1 q
  · exact own_fin_of hr h2 (by omega)
/-- a quotient by a whole number, of any dividend -/
theorem own_div_rnd {j : Int} {a b : UInt64} (ha : Core.DFin a) (hb : own_is j b) (hj : 0 < j) : own_rnd (own_zv a) j (FP.ddiv a b) := by
  have hU := own_U_pos
  have hz : 0 < own_zv b := by rw [hb.2]; exact Int.mul_pos hj hU
  have h := own_ddiv_rnd ha hb.1 (by omega)
  rw [if_pos hz, Int.natAbs_of_nonneg (Int.le_of_lt hz), hb.2] at h
  exact own_rnd_scale hU h
theorem own_rep_is (k : Int) (h : k.natAbs < 2 ^ 53) : ∃ V, own_is k V := own_rep k 1074 h (by decide)
end OwnFloat6
section OwnFloat7
open Jvm.FP Jvm.FP.Core
/-- one value, not nought: one pattern of bits -/
theorem own_bits {a b : UInt64} (ha : Core.DFin a) (hb : Core.DFin b) (e : own_zv a = own_zv b) (h : own_zv b ≠ 0) : a = b := by
  refine Core.eq_bits (fun q => h ?_) ?_
  · have := Core.DZero.zval q; exact this
  · show FP.dcmp a b = _
    rw [own_dcmp ha.ne_nan hb.ne_nan, e, Core.compare_self_int]
theorem own_at_bits {c : Int} {j : Nat} {a b : UInt64} (ha : own_at c j a) (hb : own_at c j b) (h : c ≠ 0) : a = b := by
  refine own_bits ha.1 hb.1 (by rw [ha.2, hb.2]) ?_
  rw [hb.2]; intro q
  rcases Int.mul_eq_zero.mp q with q | q
  · exact h q
  · have := Nat.two_pow_pos j; omega
theorem own_fin64 {a : UInt64} (h : Core.DFin a) : Fin64 a := fin64_core.mpr h
end OwnFloat7
section OwnFloat8
open Jvm.FP Jvm.FP.Core
/-- r's magnitude is A / B (units of 2^-1074), rounded to nearest -/
def own_rr (A B : Nat) (r : UInt64) : Prop := 0 < B ∧ ∃ s, Core.val64 r = Core.roundRatio Core.b64 s A B Core.b64.qmin
theorem own_mag {a : UInt64} : (own_zv a).natAbs = Core.zmag Core.b64 (Core.val64 a) := by unfold own_zv Core.zval; rw [Core.natAbs_signed]
theorem own_in0 (A : Nat) : Core.inUnits A Core.b64.qmin Core.b64.qmin = A := by unfold Core.inUnits; rw [own_pow0, Nat.mul_one]
theorem own_rr_mono {A1 B1 A2 B2 : Nat} {r1 r2 : UInt64} (h1 : own_rr A1 B1 r1) (h2 : own_rr A2 B2 r2) (f1 : Core.DFin r1) (f2 : Core.DFin r2) (h : A1 * B2 ≤ A2 * B1) : (own_zv r1).natAbs ≤ (own_zv r2).natAbs := by
  obtain ⟨b1, s1, e1⟩ := h1
  obtain ⟨b2, s2, e2⟩ := h2
  have n1 := f1.ne_nan; have n2 := f2.ne_nan
  rw [own_mag, own_mag]
  by_cases q1 : A1 ≤ Core.zmag Core.b64 (Core.val64 r2) * B1
  · have := Core.zmag_roundRatio_le Core.good_b64 (s := s1) (A := A1) (B := B1) (e := Core.b64.qmin) (e0 := Core.b64.qmin) b1 (Core.val64_fits r2) n2 (Int.le_refl _) (Int.le_refl _) (by rw [own_in0, own_pow0, Nat.mul_one]; exact q1)
    rw [← e1] at this; exact this
  · by_cases q2 : Core.zmag Core.b64 (Core.val64 r1) * B2 ≤ A2
    · have := Core.zmag_roundRatio_ge Core.good_b64 (s := s2) (A := A2) (B := B2) (e := Core.b64.qmin) (e0 := Core.b64.qmin) b2 (Core.val64_fits r1) (Int.le_refl _) (Int.le_refl _) (by rw [own_in0, own_pow0, Nat.mul_one]; exact q2)
      rw [← e2] at this; exact this
    · apply Nat.le_of_not_lt; intro hlt
      obtain ⟨t1, c1, x1, v1⟩ := f1
      obtain ⟨t2, c2, x2, v2⟩ := f2
      have g1 := Core.val64_fits r1; rw [v1] at g1
      have g2 := Core.val64_fits r2; rw [v2] at g2
      have d1 := Core.roundRatio_nearest Core.good_b64 (e0 := Core.b64.qmin) b1 (e1.symm.trans v1) g2.1 g2.2.1 (Int.le_refl _) (Int.le_refl _)
      have d2 := Core.roundRatio_nearest Core.good_b64 (e0 := Core.b64.qmin) b2 (e2.symm.trans v2) g1.1 g1.2.1 (Int.le_refl _) (Int.le_refl _)
      unfold Core.distance at d1 d2
      rw [own_in0] at d1 d2
      have z1 : Core.zmag Core.b64 (Core.val64 r1) = Core.inUnits c1 x1 Core.b64.qmin := by rw [v1]; rfl
      have z2 : Core.zmag Core.b64 (Core.val64 r2) = Core.inUnits c2 x2 Core.b64.qmin := by rw [v2]; rfl
      rw [← z1, ← z2] at d1 d2
      generalize hz1 : Core.zmag Core.b64 (Core.val64 r1) = Z1 at *
      generalize hz2 : Core.zmag Core.b64 (Core.val64 r2) = Z2 at *
      rw [← Int.natCast_mul, ← Int.natCast_mul] at d1 d2
      -- A1 < Z1 * B1 as well
      have k1 : A1 * B2 < Z1 * B1 * B2 := by
        have : A2 * B1 < Z1 * B2 * B1 := Nat.mul_lt_mul_of_pos_right (by omega) b1
        have e : Z1 * B2 * B1 = Z1 * B1 * B2 := by simp only [Nat.mul_assoc, Nat.mul_comm, Nat.mul_left_comm]
        omega
      have k2 : A1 < Z1 * B1 := Nat.lt_of_mul_lt_mul_right k1
      have k3 : Z2 * B1 * B2 < A2 * B1 := by
        have : Z2 * B1 * B2 < A1 * B2 := Nat.mul_lt_mul_of_pos_right (by omega) b2
        omega
      have k4 : Z2 * B2 < A2 := by
        have e : Z2 * B1 * B2 = Z2 * B2 * B1 := by simp only [Nat.mul_assoc, Nat.mul_comm, Nat.mul_left_comm]
        rw [e] at k3; exact Nat.lt_of_mul_lt_mul_right k3
      have m1 : (Z1 + Z2) * B1 ≤ 2 * A1 := by rw [Nat.add_mul]; omega
      have m2 : 2 * A2 ≤ (Z1 + Z2) * B2 := by rw [Nat.add_mul]; omega
      have m3 := Nat.mul_le_mul_right B2 m1
      have m4 := Nat.mul_le_mul_right B1 m2
      have e3 : (Z1 + Z2) * B1 * B2 = (Z1 + Z2) * B2 * B1 := by simp only [Nat.mul_assoc, Nat.mul_comm, Nat.mul_left_comm]
      have e4 : 2 * A1 * B2 = 2 * (A1 * B2) := Nat.mul_assoc _ _ _
      have e5 : 2 * A2 * B1 = 2 * (A2 * B1) := Nat.mul_assoc _ _ _
      have e6 : A1 * B2 = A2 * B1 := by omega
      have cg := Core.roundRatio_congr (f := Core.b64) (s := s1) (e := Core.b64.qmin) (e' := Core.b64.qmin) b1 b2 (by rw [own_pow0, Nat.mul_one, Nat.mul_one]; exact e6)
      have w1 := Core.zmag_roundRatio_le Core.good_b64 (s := s1) (A := A2) (B := B2) (e := Core.b64.qmin) (e0 := Core.b64.qmin) (V := Core.val64 r2) b2 (Core.val64_fits r2) n2 (Int.le_refl _) (Int.le_refl _)
      -- one sign or the other: the magnitudes are one
      have sg : Core.zmag Core.b64 (Core.roundRatio Core.b64 s1 A2 B2 Core.b64.qmin) = Core.zmag Core.b64 (Core.roundRatio Core.b64 s2 A2 B2 Core.b64.qmin) := by
        by_cases q : s1 = s2
        · rw [q]
        · have e : s2 = !s1 := by cases s1 <;> cases s2 <;> simp at q ⊢
          have ng := Core.negate_roundRatio Core.b64 s1 A2 B2 Core.b64.qmin
          rw [e, ← ng]
          cases Core.roundRatio Core.b64 s1 A2 B2 Core.b64.qmin <;> rfl
      rw [← cg, ← e1, ← e2, hz1, hz2] at sg
      omega
theorem own_rr_of_round {x : UInt64} {sg : Bool} {n : Nat} {e : Int} {A B : Nat} (hx : Core.val64 x = Core.round Core.b64 (.fin sg n e)) (hB : 0 < B) (h : n * B * 2 ^ (e - Core.b64.qmin).toNat = A * 1 * 2 ^ (Core.b64.qmin - e).toNat) : own_rr A B x :=
  ⟨hB, sg, hx.trans (Core.roundRatio_congr (f := Core.b64) (s := sg) (by decide) hB h)⟩
theorem own_rr_dmul {a b : UInt64} (ha : Core.DFin a) (hb : Core.DFin b) : own_rr ((own_zv a).natAbs * (own_zv b).natAbs) Core.one64 (FP.dmul a b) := by
  obtain ⟨s, c, q, ea⟩ := ha
  obtain ⟨t, d, r, eb⟩ := hb
  have fa := Core.val64_fits a; have fb := Core.val64_fits b
  rw [ea] at fa; rw [eb] at fb
  have h1 := fa.2.1; have h2 := fb.2.1
  have hq := Core.qmin_neg Core.good_b64
  have hv : Core.val64 (FP.dmul a b) = Core.round Core.b64 (.fin (s != t) (c * d) (q + r)) := by
    show Core.val64 (Core.dmul a b) = _
    rw [Core.val64_dmul, ea, eb]; rfl
  refine own_rr_of_round hv Core.one64_pos ?_
  rw [own_mag, own_mag, ea, eb]
  show _ = Core.inUnits c q Core.b64.qmin * Core.inUnits d r Core.b64.qmin * 1 * _
  unfold Core.inUnits
  rw [← Core.pow_qmin64, Nat.mul_one]
  have l : c * d * 2 ^ (-Core.b64.qmin).toNat * 2 ^ (q + r - Core.b64.qmin).toNat = c * d * 2 ^ ((-Core.b64.qmin).toNat + (q + r - Core.b64.qmin).toNat) := by rw [Nat.pow_add, Nat.mul_assoc (c * d)]
  have m : c * 2 ^ (q - Core.b64.qmin).toNat * (d * 2 ^ (r - Core.b64.qmin).toNat) * 2 ^ (Core.b64.qmin - (q + r)).toNat = c * d * 2 ^ ((q - Core.b64.qmin).toNat + (r - Core.b64.qmin).toNat + (Core.b64.qmin - (q + r)).toNat) := by
    rw [Nat.pow_add, Nat.pow_add]; simp only [Nat.mul_assoc, Nat.mul_comm, Nat.mul_left_comm]
  rw [l, m]; congr 2; omega
theorem own_rr_dadd {a b : UInt64} (ha : Core.DFin a) (hb : Core.DFin b) : own_rr (own_zv a + own_zv b).natAbs 1 (FP.dadd a b) := by
  obtain ⟨s, c, q, ea⟩ := ha
  obtain ⟨t, d, r, eb⟩ := hb
  have fa := Core.val64_fits a; have fb := Core.val64_fits b
  rw [ea] at fa; rw [eb] at fb
  obtain ⟨sg, n, e, h1, h2, h3⟩ := Core.sum_units fa fb
  have hv : Core.val64 (FP.dadd a b) = Core.round Core.b64 (.fin sg n e) := by
    show Core.val64 (Core.dadd a b) = _
    rw [Core.val64_dadd, ea, eb, h1]
  refine own_rr_of_round hv (by decide) ?_
  have z : (own_zv a + own_zv b).natAbs = Core.inUnits n e Core.b64.qmin := by
    unfold own_zv; rw [ea, eb, ← h3, Core.natAbs_signed]
  rw [z, Nat.mul_one, Nat.mul_one]
  unfold Core.inUnits
  rw [show (Core.b64.qmin - e).toNat = 0 by omega, Nat.pow_zero, Nat.mul_one]
theorem own_rr_ddiv {a b : UInt64} (ha : Core.DFin a) (hb : Core.DFin b) (hz : own_zv b ≠ 0) : own_rr ((own_zv a).natAbs * Core.one64) (own_zv b).natAbs (FP.ddiv a b) := by
  obtain ⟨s, c, q, ea⟩ := ha
  obtain ⟨t, d, r, eb⟩ := hb
  have fa := Core.val64_fits a; have fb := Core.val64_fits b
  rw [ea] at fa; rw [eb] at fb
  have h1 := fa.2.1; have h2 := fb.2.1
  have hq := Core.qmin_neg Core.good_b64
  have zb : own_zv b = Core.signed t (Core.inUnits d r Core.b64.qmin) := by unfold own_zv; rw [eb]; rfl
  have d0 : d ≠ 0 := fun h => hz (by rw [zb, h]; unfold Core.inUnits; rw [Nat.zero_mul]; exact Core.signed_zero t)
  have hv : Core.val64 (FP.ddiv a b) = Core.roundRatio Core.b64 (s != t) c d (q - r) := by
    show Core.val64 (Core.ddiv a b) = _
    rw [Core.val64_ddiv, ea, eb]; show (if d = 0 then _ else _) = _; rw [if_neg d0]
  refine ⟨by omega, s != t, hv.trans (Core.roundRatio_congr (Nat.pos_of_ne_zero d0) (by omega) ?_)⟩
  rw [own_mag, own_mag, ea, eb]
  show c * Core.inUnits d r Core.b64.qmin * _ = Core.inUnits c q Core.b64.qmin * Core.one64 * d * _
  unfold Core.inUnits
  rw [← Core.pow_qmin64]
  have l : c * (d * 2 ^ (r - Core.b64.qmin).toNat) * 2 ^ (q - r - Core.b64.qmin).toNat = c * d * 2 ^ ((r - Core.b64.qmin).toNat + (q - r - Core.b64.qmin).toNat) := by
    rw [Nat.pow_add]; simp only [Nat.mul_assoc, Nat.mul_comm, Nat.mul_left_comm]
  have m : c * 2 ^ (q - Core.b64.qmin).toNat * 2 ^ (-Core.b64.qmin).toNat * d * 2 ^ (Core.b64.qmin - (q - r)).toNat = c * d * 2 ^ ((q - Core.b64.qmin).toNat + (-Core.b64.qmin).toNat + (Core.b64.qmin - (q - r)).toNat) := by
    rw [Nat.pow_add, Nat.pow_add]; simp only [Nat.mul_assoc, Nat.mul_comm, Nat.mul_left_comm]
  rw [l, m]; congr 2; omega
end OwnFloat8
section OwnFloat9
open Jvm.FP Jvm.FP.Core
/-- a quotient by a power of two -/
theorem own_at_divp {c : Int} {j i : Nat} {a b : UInt64} (ha : own_at c (j + i) a) (hb : own_at 1 (1074 + i) b) (h : c.natAbs < 2 ^ 53) (hj : j ≤ 2045) : own_at c j (FP.ddiv a b) := by
  refine own_at_div ha hb (by decide) j ?_ h hj
  rw [Int.mul_one, show j + (1074 + i) = j + i + 1074 by omega]
theorem own_8d : own_at 1 (1074 + 3) (4620693217682128896 : UInt64) := ⟨by rw [Core.fin_bits]; decide, by decide +kernel⟩
theorem own_2d : own_at 1 (1074 + 1) (4611686018427387904 : UInt64) := ⟨by rw [Core.fin_bits]; decide, by decide +kernel⟩
end OwnFloat9
section OwnFloat10
open Jvm.FP Jvm.FP.Core
/-- a lies from 0 to X -/
def own_bd (X : Int) (a : UInt64) : Prop := Core.DFin a ∧ 0 ≤ own_zv a ∧ own_zv a ≤ X * own_U
theorem own_bd_of {N D X : Int} {r : UInt64} (h : own_rnd N D r) (hX : 0 ≤ X) (hX2 : X.natAbs < 2 ^ 53) (hD : 0 ≤ D) (h0 : 0 ≤ N) (h1 : N ≤ X * own_U * D) : own_bd X r := by
  obtain ⟨V, f, z⟩ := own_rep_is X hX2
  have a := h.2.1 0 own_is_0.1.ne_nan (by rw [own_is_0.2, Int.zero_mul, Int.zero_mul]; exact h0)
  have b := h.2.2 V f.ne_nan (by rw [z]; exact h1)
  rw [own_is_0.2, Int.zero_mul] at a
  have p : 0 ≤ X * own_U := Int.mul_nonneg hX (Int.le_of_lt own_U_pos)
  refine ⟨own_fin_of h.1 f (by rw [z] at b ⊢; omega), a, by rw [z] at b; exact b⟩
theorem own_bd_mul {X Y : Int} {a b : UInt64} (ha : own_bd X a) (hb : own_bd Y b) (hX : 0 ≤ X) (hY : 0 ≤ Y) (h : (X * Y).natAbs < 2 ^ 53) : own_bd (X * Y) (FP.dmul a b) := by
  have hU := own_U_pos
  refine own_bd_of (own_dmul_rnd ha.1 hb.1) (Int.mul_nonneg hX hY) h (Int.le_of_lt hU) (Int.mul_nonneg ha.2.1 hb.2.1) ?_
  have e : X * Y * own_U * own_U = (X * own_U) * (Y * own_U) := by simp only [Int.mul_assoc, Int.mul_comm, Int.mul_left_comm]
  rw [e]
  exact Int.mul_le_mul ha.2.2 hb.2.2 hb.2.1 (Int.mul_nonneg hX (Int.le_of_lt hU))
theorem own_bd_add {X Y : Int} {a b : UInt64} (ha : own_bd X a) (hb : own_bd Y b) (hX : 0 ≤ X) (hY : 0 ≤ Y) (h : (X + Y).natAbs < 2 ^ 53) : own_bd (X + Y) (FP.dadd a b) := by
  have h1 := ha.2.1; have h2 := hb.2.1; have h3 := ha.2.2; have h4 := hb.2.2
  refine own_bd_of (own_dadd_rnd ha.1 hb.1) (by omega) h (by decide) (by omega) ?_
  rw [Int.mul_one, Int.add_mul]; omega
theorem own_bd_div {X m : Int} {a b : UInt64} (ha : own_bd X a) (hb : Core.DFin b) (hp : 0 < own_zv b) (hm : own_U ≤ m * own_zv b) (hX : 0 ≤ X) (h0 : 0 ≤ m) (h : (X * m).natAbs < 2 ^ 53) : own_bd (X * m) (FP.ddiv a b) := by
  have hU := own_U_pos
  have hr := own_ddiv_rnd ha.1 hb (by omega)
  rw [if_pos hp, Int.natAbs_of_nonneg (Int.le_of_lt hp)] at hr
  refine own_bd_of hr (Int.mul_nonneg hX h0) h (Int.le_of_lt hp) (Int.mul_nonneg ha.2.1 (Int.le_of_lt hU)) ?_
  have e : X * m * own_U * own_zv b = (X * own_U) * (m * own_zv b) := by simp only [Int.mul_assoc, Int.mul_comm, Int.mul_left_comm]
  rw [e]
  exact Int.mul_le_mul ha.2.2 hm (Int.le_of_lt hU) (Int.mul_nonneg hX (Int.le_of_lt hU))
theorem own_bd_is {i : Int} {a : UInt64} (h : own_is i a) (h0 : 0 ≤ i) {X : Int} (hX : i ≤ X) : own_bd X a := ⟨h.1, by rw [h.2]; exact Int.mul_nonneg h0 (Int.le_of_lt own_U_pos), by rw [h.2]; exact Int.mul_le_mul_of_nonneg_right hX (Int.le_of_lt own_U_pos)⟩
end OwnFloat10

theorem own_pn0 : plainName "com/example/ostia/ostia/PoolStatus" = true := by first | (simp [plainName, overriddenIn]; done) | decide +kernel
theorem own_d1_0 : decode prog_14_method_1_code 0 = .ok (.aload_n 0, 1) := by decide +kernel
theorem own_d1_1 : decode prog_14_method_1_code 1 = .ok (.invokespecial 1, 3) := by decide +kernel
theorem own_d1_4 : decode prog_14_method_1_code 4 = .ok (.aload_n 0, 1) := by decide +kernel
theorem own_d1_5 : decode prog_14_method_1_code 5 = .ok (.iload_n 1, 1) := by decide +kernel
theorem own_d1_6 : decode prog_14_method_1_code 6 = .ok (.putfield 7, 3) := by decide +kernel
theorem own_d1_9 : decode prog_14_method_1_code 9 = .ok (.aload_n 0, 1) := by decide +kernel
theorem own_d1_10 : decode prog_14_method_1_code 10 = .ok (.iload_n 2, 1) := by decide +kernel
theorem own_d1_11 : decode prog_14_method_1_code 11 = .ok (.putfield 13, 3) := by decide +kernel
theorem own_d1_14 : decode prog_14_method_1_code 14 = .ok (.aload_n 0, 1) := by decide +kernel
theorem own_d1_15 : decode prog_14_method_1_code 15 = .ok (.iload_n 3, 1) := by decide +kernel
theorem own_d1_16 : decode prog_14_method_1_code 16 = .ok (.putfield 16, 3) := by decide +kernel
theorem own_d1_19 : decode prog_14_method_1_code 19 = .ok (.aload_n 0, 1) := by decide +kernel
theorem own_d1_20 : decode prog_14_method_1_code 20 = .ok (.lload 4, 2) := by decide +kernel
theorem own_d1_22 : decode prog_14_method_1_code 22 = .ok (.putfield 19, 3) := by decide +kernel
theorem own_d1_25 : decode prog_14_method_1_code 25 = .ok (.aload_n 0, 1) := by decide +kernel
theorem own_d1_26 : decode prog_14_method_1_code 26 = .ok (.lload 6, 2) := by decide +kernel
theorem own_d1_28 : decode prog_14_method_1_code 28 = .ok (.putfield 23, 3) := by decide +kernel
theorem own_d1_31 : decode prog_14_method_1_code 31 = .ok (.aload_n 0, 1) := by decide +kernel
theorem own_d1_32 : decode prog_14_method_1_code 32 = .ok (.lload 8, 2) := by decide +kernel
theorem own_d1_34 : decode prog_14_method_1_code 34 = .ok (.putfield 26, 3) := by decide +kernel
theorem own_d1_37 : decode prog_14_method_1_code 37 = .ok (.aload_n 0, 1) := by decide +kernel
theorem own_d1_38 : decode prog_14_method_1_code 38 = .ok (.lload 10, 2) := by decide +kernel
theorem own_d1_40 : decode prog_14_method_1_code 40 = .ok (.putfield 29, 3) := by decide +kernel
theorem own_d1_43 : decode prog_14_method_1_code 43 = .ok (.aload_n 0, 1) := by decide +kernel
theorem own_d1_44 : decode prog_14_method_1_code 44 = .ok (.lload 12, 2) := by decide +kernel
theorem own_d1_46 : decode prog_14_method_1_code 46 = .ok (.putfield 32, 3) := by decide +kernel
theorem own_d1_49 : decode prog_14_method_1_code 49 = .ok (.aload_n 0, 1) := by decide +kernel
theorem own_d1_50 : decode prog_14_method_1_code 50 = .ok (.lload 14, 2) := by decide +kernel
theorem own_d1_52 : decode prog_14_method_1_code 52 = .ok (.putfield 35, 3) := by decide +kernel
theorem own_d1_55 : decode prog_14_method_1_code 55 = .ok (.return_, 1) := by decide +kernel
theorem own_ef1 (m : MethodId) (a1_0 : Addr) (p1_1 : Int32) (p1_2 : Int32) (p1_3 : Int32) (q1_4 : Int64) (q1_5 : Int64) (q1_6 : Int64) (q1_7 : Int64) (q1_8 : Int64) (q1_9 : Int64) : entryFrame m #[(.ref a1_0), (.int p1_1), (.int p1_2), (.int p1_3), (.long q1_4), (.long q1_5), (.long q1_6), (.long q1_7), (.long q1_8), (.long q1_9)] 16 = mkF m 0 #[.val (.ref a1_0), .val (.int p1_1), .val (.int p1_2), .val (.int p1_3), .val (.long q1_4), .second, .val (.long q1_5), .second, .val (.long q1_6), .second, .val (.long q1_7), .second, .val (.long q1_8), .second, .val (.long q1_9), .second] [] := by first | (simp [entryFrame, mkF, argsToLocals, Value.category]; done) | rfl
def own_Q1 (Z : State) (a1_0 : Addr) (p1_1 : Int32) (p1_2 : Int32) (p1_3 : Int32) (q1_4 : Int64) (q1_5 : Int64) (q1_6 : Int64) (q1_7 : Int64) (q1_8 : Int64) (q1_9 : Int64) (w_inUse_a1_0 : Value) (w_idle_a1_0 : Value) (w_waiting_a1_0 : Value) (w_opened_a1_0 : Value) (w_closed_a1_0 : Value) (w_calls_a1_0 : Value) (w_timeouts_a1_0 : Value) (w_totalWaitMicros_a1_0 : Value) (w_longestWaitNanos_a1_0 : Value) (h0 : Heap) (n0 : Nat) (v : Option Value) (h : Heap) (L : List Loc) : Prop := v = none ∧ Fr n0 L ∧ Keep h0 h [a1_0] ∧ Exa Z h a1_0 "com/example/ostia/ostia/PoolStatus" ∧ Fld Z h a1_0 "com/example/ostia/ostia/PoolStatus" "inUse" "I" (.int p1_1) ∧ Fld Z h a1_0 "com/example/ostia/ostia/PoolStatus" "idle" "I" (.int p1_2) ∧ Fld Z h a1_0 "com/example/ostia/ostia/PoolStatus" "waiting" "I" (.int p1_3) ∧ Fld Z h a1_0 "com/example/ostia/ostia/PoolStatus" "opened" "J" (.long q1_4) ∧ Fld Z h a1_0 "com/example/ostia/ostia/PoolStatus" "closed" "J" (.long q1_5) ∧ Fld Z h a1_0 "com/example/ostia/ostia/PoolStatus" "calls" "J" (.long q1_6) ∧ Fld Z h a1_0 "com/example/ostia/ostia/PoolStatus" "timeouts" "J" (.long q1_7) ∧ Fld Z h a1_0 "com/example/ostia/ostia/PoolStatus" "totalWaitMicros" "J" (.long q1_8) ∧ Fld Z h a1_0 "com/example/ostia/ostia/PoolStatus" "longestWaitNanos" "J" (.long q1_9)
set_option maxRecDepth 65536 in
set_option maxHeartbeats 40000000 in
theorem own_rm1 (l : Launch) (Z : State) (a0 : Array Value) (hw : ∀ d ∈ tables_1, d.before a0 Z = true) (ws : List Jvm.Cond) (a1_0 : Addr) (p1_1 : Int32) (p1_2 : Int32) (p1_3 : Int32) (q1_4 : Int64) (q1_5 : Int64) (q1_6 : Int64) (q1_7 : Int64) (q1_8 : Int64) (q1_9 : Int64) (w_inUse_a1_0 : Value) (w_idle_a1_0 : Value) (w_waiting_a1_0 : Value) (w_opened_a1_0 : Value) (w_closed_a1_0 : Value) (w_calls_a1_0 : Value) (w_timeouts_a1_0 : Value) (w_totalWaitMicros_a1_0 : Value) (w_longestWaitNanos_a1_0 : Value) (h0 : Heap) (n0 : Nat) (Z0 : n0 ≤ h0.size) (E_a1_0 : Exa Z h0 a1_0 "com/example/ostia/ostia/PoolStatus") (F_inUse_a1_0 : Fld Z h0 a1_0 "com/example/ostia/ostia/PoolStatus" "inUse" "I" w_inUse_a1_0) (g_a1_0 : n0 ≤ a1_0) (F_idle_a1_0 : Fld Z h0 a1_0 "com/example/ostia/ostia/PoolStatus" "idle" "I" w_idle_a1_0) (F_waiting_a1_0 : Fld Z h0 a1_0 "com/example/ostia/ostia/PoolStatus" "waiting" "I" w_waiting_a1_0) (F_opened_a1_0 : Fld Z h0 a1_0 "com/example/ostia/ostia/PoolStatus" "opened" "J" w_opened_a1_0) (F_closed_a1_0 : Fld Z h0 a1_0 "com/example/ostia/ostia/PoolStatus" "closed" "J" w_closed_a1_0) (F_calls_a1_0 : Fld Z h0 a1_0 "com/example/ostia/ostia/PoolStatus" "calls" "J" w_calls_a1_0) (F_timeouts_a1_0 : Fld Z h0 a1_0 "com/example/ostia/ostia/PoolStatus" "timeouts" "J" w_timeouts_a1_0) (F_totalWaitMicros_a1_0 : Fld Z h0 a1_0 "com/example/ostia/ostia/PoolStatus" "totalWaitMicros" "J" w_totalWaitMicros_a1_0) (F_longestWaitNanos_a1_0 : Fld Z h0 a1_0 "com/example/ostia/ostia/PoolStatus" "longestWaitNanos" "J" w_longestWaitNanos_a1_0) :
    MetFree l (⟨"com/example/ostia/ostia/PoolStatus", "<init>", "(IIIJJJJJJ)V"⟩ : MethodName) (head1 (Jvm.Cond.code (⟨"com/example/ostia/ostia/PoolStatus", "<init>", "(IIIJJJJJJ)V"⟩ : MethodName) prog_14_method_1_code 16 none :: ws) ({ frames := 1, cells := 0, slots := 0, locals := 12 } : Room)) (fun a U => a = #[(.ref a1_0), (.int p1_1), (.int p1_2), (.int p1_3), (.long q1_4), (.long q1_5), (.long q1_6), (.long q1_7), (.long q1_8), (.long q1_9)] ∧ Z.Warmed39 U.vm ∧ U.heap = h0) (fun _ _ _ _ _ => True) (fun _ U o U' => ∃ v L, o = .returned v ∧ own_Q1 Z a1_0 p1_1 p1_2 p1_3 q1_4 q1_5 q1_6 q1_7 q1_8 q1_9 w_inUse_a1_0 w_idle_a1_0 w_waiting_a1_0 w_opened_a1_0 w_closed_a1_0 w_calls_a1_0 w_timeouts_a1_0 w_totalWaitMicros_a1_0 w_longestWaitNanos_a1_0 h0 n0 v U'.heap L ∧ FrameEnd U o U' L ({ frames := 1, cells := 0, slots := 0, locals := 12 } : Room).cells ({ frames := 1, cells := 0, slots := 0, locals := 12 } : Room).slots) := by
  refine MetFree.of_bodySF (plainFor_of_name own_pn0) hisR ?_
  intro p e s m args below meth c s₁ Bd hml0 hP hK
  obtain ⟨rfl, hZ, hh⟩ := hP
  have hx := Bd.exec
  have hby := Bd.bytes
  have hml : c.maxLocals = 16 := hml0
  have hown : s.vm.findClass "com/example/ostia/ostia/PoolStatus" = some m.cls := findClass_of_methodNamed Bd.named
  have hnm := (name_of_methodNamed Bd.named Bd.method).1
  have X0 : Stand p l e ({ frames := 1, cells := 0, slots := 0, locals := 12 } : Room) s m #[(.ref a1_0), (.int p1_1), (.int p1_2), (.int p1_3), (.long q1_4), (.long q1_5), (.long q1_6), (.long q1_7), (.long q1_8), (.long q1_9)] below meth c s₁ [] 0 0 := Stand.of_body Bd
  have e0 : s₁.heap = h0 := by rw [← hh, Bd.state]; rfl
  have N0 := Fr.nil n0
  have Zr : h0.size ≤ h0.size := Nat.le_refl _
  have pre0 : ∀ t, Steps p.tables e below (s₁.setTop (mkF m 0 #[.val (.ref a1_0), .val (.int p1_1), .val (.int p1_2), .val (.int p1_3), .val (.long q1_4), .second, .val (.long q1_5), .second, .val (.long q1_6), .second, .val (.long q1_7), .second, .val (.long q1_8), .second, .val (.long q1_9), .second] [])) t → Steps p.tables e below (s₁.setTop (entryFrame m #[(.ref a1_0), (.int p1_1), (.int p1_2), (.int p1_3), (.long q1_4), (.long q1_5), (.long q1_6), (.long q1_7), (.long q1_8), (.long q1_9)] 16)) t := fun t k => castTop (own_ef1 m a1_0 p1_1 p1_2 p1_3 q1_4 q1_5 q1_6 q1_7 q1_8 q1_9) k
  obtain ⟨Tn1_1, Xn1_1, en1_1, stn1_1⟩ := initO X0 hx hZ hown (own_W hw 6 rfl) (own_W hw 7 rfl) (own_W hw 8 rfl) e0 (g := (mkF m 1 #[.val (.ref a1_0), .val (.int p1_1), .val (.int p1_2), .val (.int p1_3), .val (.long q1_4), .second, .val (.long q1_5), .second, .val (.long q1_6), .second, .val (.long q1_7), .second, .val (.long q1_8), .second, .val (.long q1_9), .second] [(.ref a1_0)])) rfl (by rw [hml]; rfl) rfl (hb hby own_d1_1) (by decide) (W := 0) (by show 2 * 0 + _ ≤ _; exact Nat.le_of_eq rfl) (by decide)
  obtain ⟨Tn1_2, hn1_2, Xn1_2, en1_2, Wn1_2, stn1_2⟩ := putF Xn1_1 hx hZ hown (host := "") (Or.inl (own_W hw 9 rfl)) Via.refl en1_1 F_inUse_a1_0 E_a1_0 (Or.inr ⟨(own_W hw 10 rfl), rfl, hnm⟩) (own_W hw 1 rfl) (ty := .int) (by decide) rfl rfl (g := (mkF m 6 #[.val (.ref a1_0), .val (.int p1_1), .val (.int p1_2), .val (.int p1_3), .val (.long q1_4), .second, .val (.long q1_5), .second, .val (.long q1_6), .second, .val (.long q1_7), .second, .val (.long q1_8), .second, .val (.long q1_9), .second] [(.int p1_1), (.ref a1_0)])) rfl rfl (hb hby own_d1_6)
  have Fwn1_2 : Fld Z hn1_2 a1_0 "com/example/ostia/ostia/PoolStatus" "inUse" "I" (.int p1_1) := F_inUse_a1_0.same Wn1_2
  have sz1_3 : h0.size ≤ hn1_2.size := Nat.le_trans Zr (Nat.le_of_eq Wn1_2.size.symm)
  have Nn1_2 := Fr.snoc Xn1_2 N0 g_a1_0
  have F1_4 := (E_a1_0.wr Wn1_2)
  have F1_5 := (F_idle_a1_0.other Wn1_2 (Or.inr (slot_ne (Or.inr (own_W hw 12 rfl)) (Or.inr (own_W hw 10 rfl)) (by decide) (t := .int) (t' := .int) (by decide) (by decide))))
  obtain ⟨Tn1_6, hn1_6, Xn1_6, en1_6, Wn1_6, stn1_6⟩ := putF Xn1_2 hx hZ hown (host := "") (Or.inl (own_W hw 11 rfl)) Via.refl en1_2 F1_5 F1_4 (Or.inr ⟨(own_W hw 12 rfl), rfl, hnm⟩) (own_W hw 1 rfl) (ty := .int) (by decide) rfl rfl (g := (mkF m 11 #[.val (.ref a1_0), .val (.int p1_1), .val (.int p1_2), .val (.int p1_3), .val (.long q1_4), .second, .val (.long q1_5), .second, .val (.long q1_6), .second, .val (.long q1_7), .second, .val (.long q1_8), .second, .val (.long q1_9), .second] [(.int p1_2), (.ref a1_0)])) rfl rfl (hb hby own_d1_11)
  have Fwn1_6 : Fld Z hn1_6 a1_0 "com/example/ostia/ostia/PoolStatus" "idle" "I" (.int p1_2) := F1_5.same Wn1_6
  have sz1_7 : h0.size ≤ hn1_6.size := Nat.le_trans sz1_3 (Nat.le_of_eq Wn1_6.size.symm)
  have Nn1_6 := Fr.snoc Xn1_6 Nn1_2 g_a1_0
  have F1_8 := (F1_4.wr Wn1_6)
  have F1_9 := ((F_waiting_a1_0.other Wn1_2 (Or.inr (slot_ne (Or.inr (own_W hw 14 rfl)) (Or.inr (own_W hw 10 rfl)) (by decide) (t := .int) (t' := .int) (by decide) (by decide)))).other Wn1_6 (Or.inr (slot_ne (Or.inr (own_W hw 14 rfl)) (Or.inr (own_W hw 12 rfl)) (by decide) (t := .int) (t' := .int) (by decide) (by decide))))
  obtain ⟨Tn1_10, hn1_10, Xn1_10, en1_10, Wn1_10, stn1_10⟩ := putF Xn1_6 hx hZ hown (host := "") (Or.inl (own_W hw 13 rfl)) Via.refl en1_6 F1_9 F1_8 (Or.inr ⟨(own_W hw 14 rfl), rfl, hnm⟩) (own_W hw 1 rfl) (ty := .int) (by decide) rfl rfl (g := (mkF m 16 #[.val (.ref a1_0), .val (.int p1_1), .val (.int p1_2), .val (.int p1_3), .val (.long q1_4), .second, .val (.long q1_5), .second, .val (.long q1_6), .second, .val (.long q1_7), .second, .val (.long q1_8), .second, .val (.long q1_9), .second] [(.int p1_3), (.ref a1_0)])) rfl rfl (hb hby own_d1_16)
  have Fwn1_10 : Fld Z hn1_10 a1_0 "com/example/ostia/ostia/PoolStatus" "waiting" "I" (.int p1_3) := F1_9.same Wn1_10
  have sz1_11 : h0.size ≤ hn1_10.size := Nat.le_trans sz1_7 (Nat.le_of_eq Wn1_10.size.symm)
  have Nn1_10 := Fr.snoc Xn1_10 Nn1_6 g_a1_0
  have F1_12 := (F1_8.wr Wn1_10)
  have F1_13 := (((F_opened_a1_0.other Wn1_2 (Or.inr (slot_ne (Or.inr (own_W hw 16 rfl)) (Or.inr (own_W hw 10 rfl)) (by decide) (t := .long) (t' := .int) (by decide) (by decide)))).other Wn1_6 (Or.inr (slot_ne (Or.inr (own_W hw 16 rfl)) (Or.inr (own_W hw 12 rfl)) (by decide) (t := .long) (t' := .int) (by decide) (by decide)))).other Wn1_10 (Or.inr (slot_ne (Or.inr (own_W hw 16 rfl)) (Or.inr (own_W hw 14 rfl)) (by decide) (t := .long) (t' := .int) (by decide) (by decide))))
  obtain ⟨Tn1_14, hn1_14, Xn1_14, en1_14, Wn1_14, stn1_14⟩ := putF Xn1_10 hx hZ hown (host := "") (Or.inl (own_W hw 15 rfl)) Via.refl en1_10 F1_13 F1_12 (Or.inr ⟨(own_W hw 16 rfl), rfl, hnm⟩) (own_W hw 1 rfl) (ty := .long) (by decide) rfl rfl (g := (mkF m 22 #[.val (.ref a1_0), .val (.int p1_1), .val (.int p1_2), .val (.int p1_3), .val (.long q1_4), .second, .val (.long q1_5), .second, .val (.long q1_6), .second, .val (.long q1_7), .second, .val (.long q1_8), .second, .val (.long q1_9), .second] [(.long q1_4), (.ref a1_0)])) rfl rfl (hb hby own_d1_22)
  have Fwn1_14 : Fld Z hn1_14 a1_0 "com/example/ostia/ostia/PoolStatus" "opened" "J" (.long q1_4) := F1_13.same Wn1_14
  have sz1_15 : h0.size ≤ hn1_14.size := Nat.le_trans sz1_11 (Nat.le_of_eq Wn1_14.size.symm)
  have Nn1_14 := Fr.snoc Xn1_14 Nn1_10 g_a1_0
  have F1_16 := (F1_12.wr Wn1_14)
  have F1_17 := ((((F_closed_a1_0.other Wn1_2 (Or.inr (slot_ne (Or.inr (own_W hw 18 rfl)) (Or.inr (own_W hw 10 rfl)) (by decide) (t := .long) (t' := .int) (by decide) (by decide)))).other Wn1_6 (Or.inr (slot_ne (Or.inr (own_W hw 18 rfl)) (Or.inr (own_W hw 12 rfl)) (by decide) (t := .long) (t' := .int) (by decide) (by decide)))).other Wn1_10 (Or.inr (slot_ne (Or.inr (own_W hw 18 rfl)) (Or.inr (own_W hw 14 rfl)) (by decide) (t := .long) (t' := .int) (by decide) (by decide)))).other Wn1_14 (Or.inr (slot_ne (Or.inr (own_W hw 18 rfl)) (Or.inr (own_W hw 16 rfl)) (by decide) (t := .long) (t' := .long) (by decide) (by decide))))
  obtain ⟨Tn1_18, hn1_18, Xn1_18, en1_18, Wn1_18, stn1_18⟩ := putF Xn1_14 hx hZ hown (host := "") (Or.inl (own_W hw 17 rfl)) Via.refl en1_14 F1_17 F1_16 (Or.inr ⟨(own_W hw 18 rfl), rfl, hnm⟩) (own_W hw 1 rfl) (ty := .long) (by decide) rfl rfl (g := (mkF m 28 #[.val (.ref a1_0), .val (.int p1_1), .val (.int p1_2), .val (.int p1_3), .val (.long q1_4), .second, .val (.long q1_5), .second, .val (.long q1_6), .second, .val (.long q1_7), .second, .val (.long q1_8), .second, .val (.long q1_9), .second] [(.long q1_5), (.ref a1_0)])) rfl rfl (hb hby own_d1_28)
  have Fwn1_18 : Fld Z hn1_18 a1_0 "com/example/ostia/ostia/PoolStatus" "closed" "J" (.long q1_5) := F1_17.same Wn1_18
  have sz1_19 : h0.size ≤ hn1_18.size := Nat.le_trans sz1_15 (Nat.le_of_eq Wn1_18.size.symm)
  have Nn1_18 := Fr.snoc Xn1_18 Nn1_14 g_a1_0
  have F1_20 := (F1_16.wr Wn1_18)
  have F1_21 := (((((F_calls_a1_0.other Wn1_2 (Or.inr (slot_ne (Or.inr (own_W hw 20 rfl)) (Or.inr (own_W hw 10 rfl)) (by decide) (t := .long) (t' := .int) (by decide) (by decide)))).other Wn1_6 (Or.inr (slot_ne (Or.inr (own_W hw 20 rfl)) (Or.inr (own_W hw 12 rfl)) (by decide) (t := .long) (t' := .int) (by decide) (by decide)))).other Wn1_10 (Or.inr (slot_ne (Or.inr (own_W hw 20 rfl)) (Or.inr (own_W hw 14 rfl)) (by decide) (t := .long) (t' := .int) (by decide) (by decide)))).other Wn1_14 (Or.inr (slot_ne (Or.inr (own_W hw 20 rfl)) (Or.inr (own_W hw 16 rfl)) (by decide) (t := .long) (t' := .long) (by decide) (by decide)))).other Wn1_18 (Or.inr (slot_ne (Or.inr (own_W hw 20 rfl)) (Or.inr (own_W hw 18 rfl)) (by decide) (t := .long) (t' := .long) (by decide) (by decide))))
  obtain ⟨Tn1_22, hn1_22, Xn1_22, en1_22, Wn1_22, stn1_22⟩ := putF Xn1_18 hx hZ hown (host := "") (Or.inl (own_W hw 19 rfl)) Via.refl en1_18 F1_21 F1_20 (Or.inr ⟨(own_W hw 20 rfl), rfl, hnm⟩) (own_W hw 1 rfl) (ty := .long) (by decide) rfl rfl (g := (mkF m 34 #[.val (.ref a1_0), .val (.int p1_1), .val (.int p1_2), .val (.int p1_3), .val (.long q1_4), .second, .val (.long q1_5), .second, .val (.long q1_6), .second, .val (.long q1_7), .second, .val (.long q1_8), .second, .val (.long q1_9), .second] [(.long q1_6), (.ref a1_0)])) rfl rfl (hb hby own_d1_34)
  have Fwn1_22 : Fld Z hn1_22 a1_0 "com/example/ostia/ostia/PoolStatus" "calls" "J" (.long q1_6) := F1_21.same Wn1_22
  have sz1_23 : h0.size ≤ hn1_22.size := Nat.le_trans sz1_19 (Nat.le_of_eq Wn1_22.size.symm)
  have Nn1_22 := Fr.snoc Xn1_22 Nn1_18 g_a1_0
  have F1_24 := (F1_20.wr Wn1_22)
  have F1_25 := ((((((F_timeouts_a1_0.other Wn1_2 (Or.inr (slot_ne (Or.inr (own_W hw 22 rfl)) (Or.inr (own_W hw 10 rfl)) (by decide) (t := .long) (t' := .int) (by decide) (by decide)))).other Wn1_6 (Or.inr (slot_ne (Or.inr (own_W hw 22 rfl)) (Or.inr (own_W hw 12 rfl)) (by decide) (t := .long) (t' := .int) (by decide) (by decide)))).other Wn1_10 (Or.inr (slot_ne (Or.inr (own_W hw 22 rfl)) (Or.inr (own_W hw 14 rfl)) (by decide) (t := .long) (t' := .int) (by decide) (by decide)))).other Wn1_14 (Or.inr (slot_ne (Or.inr (own_W hw 22 rfl)) (Or.inr (own_W hw 16 rfl)) (by decide) (t := .long) (t' := .long) (by decide) (by decide)))).other Wn1_18 (Or.inr (slot_ne (Or.inr (own_W hw 22 rfl)) (Or.inr (own_W hw 18 rfl)) (by decide) (t := .long) (t' := .long) (by decide) (by decide)))).other Wn1_22 (Or.inr (slot_ne (Or.inr (own_W hw 22 rfl)) (Or.inr (own_W hw 20 rfl)) (by decide) (t := .long) (t' := .long) (by decide) (by decide))))
  obtain ⟨Tn1_26, hn1_26, Xn1_26, en1_26, Wn1_26, stn1_26⟩ := putF Xn1_22 hx hZ hown (host := "") (Or.inl (own_W hw 21 rfl)) Via.refl en1_22 F1_25 F1_24 (Or.inr ⟨(own_W hw 22 rfl), rfl, hnm⟩) (own_W hw 1 rfl) (ty := .long) (by decide) rfl rfl (g := (mkF m 40 #[.val (.ref a1_0), .val (.int p1_1), .val (.int p1_2), .val (.int p1_3), .val (.long q1_4), .second, .val (.long q1_5), .second, .val (.long q1_6), .second, .val (.long q1_7), .second, .val (.long q1_8), .second, .val (.long q1_9), .second] [(.long q1_7), (.ref a1_0)])) rfl rfl (hb hby own_d1_40)
  have Fwn1_26 : Fld Z hn1_26 a1_0 "com/example/ostia/ostia/PoolStatus" "timeouts" "J" (.long q1_7) := F1_25.same Wn1_26
  have sz1_27 : h0.size ≤ hn1_26.size := Nat.le_trans sz1_23 (Nat.le_of_eq Wn1_26.size.symm)
  have Nn1_26 := Fr.snoc Xn1_26 Nn1_22 g_a1_0
  have F1_28 := (F1_24.wr Wn1_26)
  have F1_29 := (((((((F_totalWaitMicros_a1_0.other Wn1_2 (Or.inr (slot_ne (Or.inr (own_W hw 24 rfl)) (Or.inr (own_W hw 10 rfl)) (by decide) (t := .long) (t' := .int) (by decide) (by decide)))).other Wn1_6 (Or.inr (slot_ne (Or.inr (own_W hw 24 rfl)) (Or.inr (own_W hw 12 rfl)) (by decide) (t := .long) (t' := .int) (by decide) (by decide)))).other Wn1_10 (Or.inr (slot_ne (Or.inr (own_W hw 24 rfl)) (Or.inr (own_W hw 14 rfl)) (by decide) (t := .long) (t' := .int) (by decide) (by decide)))).other Wn1_14 (Or.inr (slot_ne (Or.inr (own_W hw 24 rfl)) (Or.inr (own_W hw 16 rfl)) (by decide) (t := .long) (t' := .long) (by decide) (by decide)))).other Wn1_18 (Or.inr (slot_ne (Or.inr (own_W hw 24 rfl)) (Or.inr (own_W hw 18 rfl)) (by decide) (t := .long) (t' := .long) (by decide) (by decide)))).other Wn1_22 (Or.inr (slot_ne (Or.inr (own_W hw 24 rfl)) (Or.inr (own_W hw 20 rfl)) (by decide) (t := .long) (t' := .long) (by decide) (by decide)))).other Wn1_26 (Or.inr (slot_ne (Or.inr (own_W hw 24 rfl)) (Or.inr (own_W hw 22 rfl)) (by decide) (t := .long) (t' := .long) (by decide) (by decide))))
  obtain ⟨Tn1_30, hn1_30, Xn1_30, en1_30, Wn1_30, stn1_30⟩ := putF Xn1_26 hx hZ hown (host := "") (Or.inl (own_W hw 23 rfl)) Via.refl en1_26 F1_29 F1_28 (Or.inr ⟨(own_W hw 24 rfl), rfl, hnm⟩) (own_W hw 1 rfl) (ty := .long) (by decide) rfl rfl (g := (mkF m 46 #[.val (.ref a1_0), .val (.int p1_1), .val (.int p1_2), .val (.int p1_3), .val (.long q1_4), .second, .val (.long q1_5), .second, .val (.long q1_6), .second, .val (.long q1_7), .second, .val (.long q1_8), .second, .val (.long q1_9), .second] [(.long q1_8), (.ref a1_0)])) rfl rfl (hb hby own_d1_46)
  have Fwn1_30 : Fld Z hn1_30 a1_0 "com/example/ostia/ostia/PoolStatus" "totalWaitMicros" "J" (.long q1_8) := F1_29.same Wn1_30
  have sz1_31 : h0.size ≤ hn1_30.size := Nat.le_trans sz1_27 (Nat.le_of_eq Wn1_30.size.symm)
  have Nn1_30 := Fr.snoc Xn1_30 Nn1_26 g_a1_0
  have F1_32 := (F1_28.wr Wn1_30)
  have F1_33 := ((((((((F_longestWaitNanos_a1_0.other Wn1_2 (Or.inr (slot_ne (Or.inr (own_W hw 26 rfl)) (Or.inr (own_W hw 10 rfl)) (by decide) (t := .long) (t' := .int) (by decide) (by decide)))).other Wn1_6 (Or.inr (slot_ne (Or.inr (own_W hw 26 rfl)) (Or.inr (own_W hw 12 rfl)) (by decide) (t := .long) (t' := .int) (by decide) (by decide)))).other Wn1_10 (Or.inr (slot_ne (Or.inr (own_W hw 26 rfl)) (Or.inr (own_W hw 14 rfl)) (by decide) (t := .long) (t' := .int) (by decide) (by decide)))).other Wn1_14 (Or.inr (slot_ne (Or.inr (own_W hw 26 rfl)) (Or.inr (own_W hw 16 rfl)) (by decide) (t := .long) (t' := .long) (by decide) (by decide)))).other Wn1_18 (Or.inr (slot_ne (Or.inr (own_W hw 26 rfl)) (Or.inr (own_W hw 18 rfl)) (by decide) (t := .long) (t' := .long) (by decide) (by decide)))).other Wn1_22 (Or.inr (slot_ne (Or.inr (own_W hw 26 rfl)) (Or.inr (own_W hw 20 rfl)) (by decide) (t := .long) (t' := .long) (by decide) (by decide)))).other Wn1_26 (Or.inr (slot_ne (Or.inr (own_W hw 26 rfl)) (Or.inr (own_W hw 22 rfl)) (by decide) (t := .long) (t' := .long) (by decide) (by decide)))).other Wn1_30 (Or.inr (slot_ne (Or.inr (own_W hw 26 rfl)) (Or.inr (own_W hw 24 rfl)) (by decide) (t := .long) (t' := .long) (by decide) (by decide))))
  obtain ⟨Tn1_34, hn1_34, Xn1_34, en1_34, Wn1_34, stn1_34⟩ := putF Xn1_30 hx hZ hown (host := "") (Or.inl (own_W hw 25 rfl)) Via.refl en1_30 F1_33 F1_32 (Or.inr ⟨(own_W hw 26 rfl), rfl, hnm⟩) (own_W hw 1 rfl) (ty := .long) (by decide) rfl rfl (g := (mkF m 52 #[.val (.ref a1_0), .val (.int p1_1), .val (.int p1_2), .val (.int p1_3), .val (.long q1_4), .second, .val (.long q1_5), .second, .val (.long q1_6), .second, .val (.long q1_7), .second, .val (.long q1_8), .second, .val (.long q1_9), .second] [(.long q1_9), (.ref a1_0)])) rfl rfl (hb hby own_d1_52)
  have Fwn1_34 : Fld Z hn1_34 a1_0 "com/example/ostia/ostia/PoolStatus" "longestWaitNanos" "J" (.long q1_9) := F1_33.same Wn1_34
  have sz1_35 : h0.size ≤ hn1_34.size := Nat.le_trans sz1_31 (Nat.le_of_eq Wn1_34.size.symm)
  have Nn1_34 := Fr.snoc Xn1_34 Nn1_30 g_a1_0
  obtain ⟨fs, hr, hrun, hended, hW, hsame⟩ := Xn1_34.leave (v := none) (fun _ => rfl)
  refine ⟨_, _, pre0 _ (?_), hrun, hended, _, _, rfl, ?_, ⟨_, rfl⟩, hW, hsame.mono (by decide) (by decide)⟩
  · show Steps p.tables e below (s₁.setTop (mkF m 0 #[.val (.ref a1_0), .val (.int p1_1), .val (.int p1_2), .val (.int p1_3), .val (.long q1_4), .second, .val (.long q1_5), .second, .val (.long q1_6), .second, .val (.long q1_7), .second, .val (.long q1_8), .second, .val (.long q1_9), .second] [])) _
    refine XS.aloadN X0.here hx rfl (hb hby own_d1_0) rfl rfl ?_
    refine stn1_1 _ ?_
    show Steps p.tables e below (Tn1_1.setTop (mkF m 4 #[.val (.ref a1_0), .val (.int p1_1), .val (.int p1_2), .val (.int p1_3), .val (.long q1_4), .second, .val (.long q1_5), .second, .val (.long q1_6), .second, .val (.long q1_7), .second, .val (.long q1_8), .second, .val (.long q1_9), .second] [])) _
    refine XS.aloadN Xn1_1.here hx rfl (hb hby own_d1_4) rfl rfl ?_
    refine XS.iloadN Xn1_1.here hx rfl (hb hby own_d1_5) rfl ?_
    refine stn1_2 _ ?_
    show Steps p.tables e below (Tn1_2.setTop (mkF m 9 #[.val (.ref a1_0), .val (.int p1_1), .val (.int p1_2), .val (.int p1_3), .val (.long q1_4), .second, .val (.long q1_5), .second, .val (.long q1_6), .second, .val (.long q1_7), .second, .val (.long q1_8), .second, .val (.long q1_9), .second] [])) _
    refine XS.aloadN Xn1_2.here hx rfl (hb hby own_d1_9) rfl rfl ?_
    refine XS.iloadN Xn1_2.here hx rfl (hb hby own_d1_10) rfl ?_
    refine stn1_6 _ ?_
    show Steps p.tables e below (Tn1_6.setTop (mkF m 14 #[.val (.ref a1_0), .val (.int p1_1), .val (.int p1_2), .val (.int p1_3), .val (.long q1_4), .second, .val (.long q1_5), .second, .val (.long q1_6), .second, .val (.long q1_7), .second, .val (.long q1_8), .second, .val (.long q1_9), .second] [])) _
    refine XS.aloadN Xn1_6.here hx rfl (hb hby own_d1_14) rfl rfl ?_
    refine XS.iloadN Xn1_6.here hx rfl (hb hby own_d1_15) rfl ?_
    refine stn1_10 _ ?_
    show Steps p.tables e below (Tn1_10.setTop (mkF m 19 #[.val (.ref a1_0), .val (.int p1_1), .val (.int p1_2), .val (.int p1_3), .val (.long q1_4), .second, .val (.long q1_5), .second, .val (.long q1_6), .second, .val (.long q1_7), .second, .val (.long q1_8), .second, .val (.long q1_9), .second] [])) _
    refine XS.aloadN Xn1_10.here hx rfl (hb hby own_d1_19) rfl rfl ?_
    refine XT.lload Xn1_10.here hx rfl (hb hby own_d1_20) rfl ?_
    refine stn1_14 _ ?_
    show Steps p.tables e below (Tn1_14.setTop (mkF m 25 #[.val (.ref a1_0), .val (.int p1_1), .val (.int p1_2), .val (.int p1_3), .val (.long q1_4), .second, .val (.long q1_5), .second, .val (.long q1_6), .second, .val (.long q1_7), .second, .val (.long q1_8), .second, .val (.long q1_9), .second] [])) _
    refine XS.aloadN Xn1_14.here hx rfl (hb hby own_d1_25) rfl rfl ?_
    refine XT.lload Xn1_14.here hx rfl (hb hby own_d1_26) rfl ?_
    refine stn1_18 _ ?_
    show Steps p.tables e below (Tn1_18.setTop (mkF m 31 #[.val (.ref a1_0), .val (.int p1_1), .val (.int p1_2), .val (.int p1_3), .val (.long q1_4), .second, .val (.long q1_5), .second, .val (.long q1_6), .second, .val (.long q1_7), .second, .val (.long q1_8), .second, .val (.long q1_9), .second] [])) _
    refine XS.aloadN Xn1_18.here hx rfl (hb hby own_d1_31) rfl rfl ?_
    refine XT.lload Xn1_18.here hx rfl (hb hby own_d1_32) rfl ?_
    refine stn1_22 _ ?_
    show Steps p.tables e below (Tn1_22.setTop (mkF m 37 #[.val (.ref a1_0), .val (.int p1_1), .val (.int p1_2), .val (.int p1_3), .val (.long q1_4), .second, .val (.long q1_5), .second, .val (.long q1_6), .second, .val (.long q1_7), .second, .val (.long q1_8), .second, .val (.long q1_9), .second] [])) _
    refine XS.aloadN Xn1_22.here hx rfl (hb hby own_d1_37) rfl rfl ?_
    refine XT.lload Xn1_22.here hx rfl (hb hby own_d1_38) rfl ?_
    refine stn1_26 _ ?_
    show Steps p.tables e below (Tn1_26.setTop (mkF m 43 #[.val (.ref a1_0), .val (.int p1_1), .val (.int p1_2), .val (.int p1_3), .val (.long q1_4), .second, .val (.long q1_5), .second, .val (.long q1_6), .second, .val (.long q1_7), .second, .val (.long q1_8), .second, .val (.long q1_9), .second] [])) _
    refine XS.aloadN Xn1_26.here hx rfl (hb hby own_d1_43) rfl rfl ?_
    refine XT.lload Xn1_26.here hx rfl (hb hby own_d1_44) rfl ?_
    refine stn1_30 _ ?_
    show Steps p.tables e below (Tn1_30.setTop (mkF m 49 #[.val (.ref a1_0), .val (.int p1_1), .val (.int p1_2), .val (.int p1_3), .val (.long q1_4), .second, .val (.long q1_5), .second, .val (.long q1_6), .second, .val (.long q1_7), .second, .val (.long q1_8), .second, .val (.long q1_9), .second] [])) _
    refine XS.aloadN Xn1_30.here hx rfl (hb hby own_d1_49) rfl rfl ?_
    refine XT.lload Xn1_30.here hx rfl (hb hby own_d1_50) rfl ?_
    refine stn1_34 _ ?_
    show Steps p.tables e below (Tn1_34.setTop (mkF m 55 #[.val (.ref a1_0), .val (.int p1_1), .val (.int p1_2), .val (.int p1_3), .val (.long q1_4), .second, .val (.long q1_5), .second, .val (.long q1_6), .second, .val (.long q1_7), .second, .val (.long q1_8), .second, .val (.long q1_9), .second] [])) _
    exact Xn1_34.returnOut hx Bd.returns (hb hby own_d1_55) hr
  · show own_Q1 Z a1_0 p1_1 p1_2 p1_3 q1_4 q1_5 q1_6 q1_7 q1_8 q1_9 w_inUse_a1_0 w_idle_a1_0 w_waiting_a1_0 w_opened_a1_0 w_closed_a1_0 w_calls_a1_0 w_timeouts_a1_0 w_totalWaitMicros_a1_0 w_longestWaitNanos_a1_0 h0 n0 _ Tn1_34.heap _
    rw [en1_34]
    exact ⟨rfl, Nn1_34, ((((((((((Keep.refl h0 [a1_0]).wr Wn1_2 (Or.inl (List.mem_of_getElem? (i := 0) rfl))).wr Wn1_6 (Or.inl (List.mem_of_getElem? (i := 0) rfl))).wr Wn1_10 (Or.inl (List.mem_of_getElem? (i := 0) rfl))).wr Wn1_14 (Or.inl (List.mem_of_getElem? (i := 0) rfl))).wr Wn1_18 (Or.inl (List.mem_of_getElem? (i := 0) rfl))).wr Wn1_22 (Or.inl (List.mem_of_getElem? (i := 0) rfl))).wr Wn1_26 (Or.inl (List.mem_of_getElem? (i := 0) rfl))).wr Wn1_30 (Or.inl (List.mem_of_getElem? (i := 0) rfl))).wr Wn1_34 (Or.inl (List.mem_of_getElem? (i := 0) rfl))), (F1_32.wr Wn1_34), ((((((((Fwn1_2.other Wn1_6 (Or.inr (slot_ne (Or.inr (own_W hw 10 rfl)) (Or.inr (own_W hw 12 rfl)) (by decide) (t := .int) (t' := .int) (by decide) (by decide)))).other Wn1_10 (Or.inr (slot_ne (Or.inr (own_W hw 10 rfl)) (Or.inr (own_W hw 14 rfl)) (by decide) (t := .int) (t' := .int) (by decide) (by decide)))).other Wn1_14 (Or.inr (slot_ne (Or.inr (own_W hw 10 rfl)) (Or.inr (own_W hw 16 rfl)) (by decide) (t := .int) (t' := .long) (by decide) (by decide)))).other Wn1_18 (Or.inr (slot_ne (Or.inr (own_W hw 10 rfl)) (Or.inr (own_W hw 18 rfl)) (by decide) (t := .int) (t' := .long) (by decide) (by decide)))).other Wn1_22 (Or.inr (slot_ne (Or.inr (own_W hw 10 rfl)) (Or.inr (own_W hw 20 rfl)) (by decide) (t := .int) (t' := .long) (by decide) (by decide)))).other Wn1_26 (Or.inr (slot_ne (Or.inr (own_W hw 10 rfl)) (Or.inr (own_W hw 22 rfl)) (by decide) (t := .int) (t' := .long) (by decide) (by decide)))).other Wn1_30 (Or.inr (slot_ne (Or.inr (own_W hw 10 rfl)) (Or.inr (own_W hw 24 rfl)) (by decide) (t := .int) (t' := .long) (by decide) (by decide)))).other Wn1_34 (Or.inr (slot_ne (Or.inr (own_W hw 10 rfl)) (Or.inr (own_W hw 26 rfl)) (by decide) (t := .int) (t' := .long) (by decide) (by decide)))), (((((((Fwn1_6.other Wn1_10 (Or.inr (slot_ne (Or.inr (own_W hw 12 rfl)) (Or.inr (own_W hw 14 rfl)) (by decide) (t := .int) (t' := .int) (by decide) (by decide)))).other Wn1_14 (Or.inr (slot_ne (Or.inr (own_W hw 12 rfl)) (Or.inr (own_W hw 16 rfl)) (by decide) (t := .int) (t' := .long) (by decide) (by decide)))).other Wn1_18 (Or.inr (slot_ne (Or.inr (own_W hw 12 rfl)) (Or.inr (own_W hw 18 rfl)) (by decide) (t := .int) (t' := .long) (by decide) (by decide)))).other Wn1_22 (Or.inr (slot_ne (Or.inr (own_W hw 12 rfl)) (Or.inr (own_W hw 20 rfl)) (by decide) (t := .int) (t' := .long) (by decide) (by decide)))).other Wn1_26 (Or.inr (slot_ne (Or.inr (own_W hw 12 rfl)) (Or.inr (own_W hw 22 rfl)) (by decide) (t := .int) (t' := .long) (by decide) (by decide)))).other Wn1_30 (Or.inr (slot_ne (Or.inr (own_W hw 12 rfl)) (Or.inr (own_W hw 24 rfl)) (by decide) (t := .int) (t' := .long) (by decide) (by decide)))).other Wn1_34 (Or.inr (slot_ne (Or.inr (own_W hw 12 rfl)) (Or.inr (own_W hw 26 rfl)) (by decide) (t := .int) (t' := .long) (by decide) (by decide)))), ((((((Fwn1_10.other Wn1_14 (Or.inr (slot_ne (Or.inr (own_W hw 14 rfl)) (Or.inr (own_W hw 16 rfl)) (by decide) (t := .int) (t' := .long) (by decide) (by decide)))).other Wn1_18 (Or.inr (slot_ne (Or.inr (own_W hw 14 rfl)) (Or.inr (own_W hw 18 rfl)) (by decide) (t := .int) (t' := .long) (by decide) (by decide)))).other Wn1_22 (Or.inr (slot_ne (Or.inr (own_W hw 14 rfl)) (Or.inr (own_W hw 20 rfl)) (by decide) (t := .int) (t' := .long) (by decide) (by decide)))).other Wn1_26 (Or.inr (slot_ne (Or.inr (own_W hw 14 rfl)) (Or.inr (own_W hw 22 rfl)) (by decide) (t := .int) (t' := .long) (by decide) (by decide)))).other Wn1_30 (Or.inr (slot_ne (Or.inr (own_W hw 14 rfl)) (Or.inr (own_W hw 24 rfl)) (by decide) (t := .int) (t' := .long) (by decide) (by decide)))).other Wn1_34 (Or.inr (slot_ne (Or.inr (own_W hw 14 rfl)) (Or.inr (own_W hw 26 rfl)) (by decide) (t := .int) (t' := .long) (by decide) (by decide)))), (((((Fwn1_14.other Wn1_18 (Or.inr (slot_ne (Or.inr (own_W hw 16 rfl)) (Or.inr (own_W hw 18 rfl)) (by decide) (t := .long) (t' := .long) (by decide) (by decide)))).other Wn1_22 (Or.inr (slot_ne (Or.inr (own_W hw 16 rfl)) (Or.inr (own_W hw 20 rfl)) (by decide) (t := .long) (t' := .long) (by decide) (by decide)))).other Wn1_26 (Or.inr (slot_ne (Or.inr (own_W hw 16 rfl)) (Or.inr (own_W hw 22 rfl)) (by decide) (t := .long) (t' := .long) (by decide) (by decide)))).other Wn1_30 (Or.inr (slot_ne (Or.inr (own_W hw 16 rfl)) (Or.inr (own_W hw 24 rfl)) (by decide) (t := .long) (t' := .long) (by decide) (by decide)))).other Wn1_34 (Or.inr (slot_ne (Or.inr (own_W hw 16 rfl)) (Or.inr (own_W hw 26 rfl)) (by decide) (t := .long) (t' := .long) (by decide) (by decide)))), ((((Fwn1_18.other Wn1_22 (Or.inr (slot_ne (Or.inr (own_W hw 18 rfl)) (Or.inr (own_W hw 20 rfl)) (by decide) (t := .long) (t' := .long) (by decide) (by decide)))).other Wn1_26 (Or.inr (slot_ne (Or.inr (own_W hw 18 rfl)) (Or.inr (own_W hw 22 rfl)) (by decide) (t := .long) (t' := .long) (by decide) (by decide)))).other Wn1_30 (Or.inr (slot_ne (Or.inr (own_W hw 18 rfl)) (Or.inr (own_W hw 24 rfl)) (by decide) (t := .long) (t' := .long) (by decide) (by decide)))).other Wn1_34 (Or.inr (slot_ne (Or.inr (own_W hw 18 rfl)) (Or.inr (own_W hw 26 rfl)) (by decide) (t := .long) (t' := .long) (by decide) (by decide)))), (((Fwn1_22.other Wn1_26 (Or.inr (slot_ne (Or.inr (own_W hw 20 rfl)) (Or.inr (own_W hw 22 rfl)) (by decide) (t := .long) (t' := .long) (by decide) (by decide)))).other Wn1_30 (Or.inr (slot_ne (Or.inr (own_W hw 20 rfl)) (Or.inr (own_W hw 24 rfl)) (by decide) (t := .long) (t' := .long) (by decide) (by decide)))).other Wn1_34 (Or.inr (slot_ne (Or.inr (own_W hw 20 rfl)) (Or.inr (own_W hw 26 rfl)) (by decide) (t := .long) (t' := .long) (by decide) (by decide)))), ((Fwn1_26.other Wn1_30 (Or.inr (slot_ne (Or.inr (own_W hw 22 rfl)) (Or.inr (own_W hw 24 rfl)) (by decide) (t := .long) (t' := .long) (by decide) (by decide)))).other Wn1_34 (Or.inr (slot_ne (Or.inr (own_W hw 22 rfl)) (Or.inr (own_W hw 26 rfl)) (by decide) (t := .long) (t' := .long) (by decide) (by decide)))), (Fwn1_30.other Wn1_34 (Or.inr (slot_ne (Or.inr (own_W hw 24 rfl)) (Or.inr (own_W hw 26 rfl)) (by decide) (t := .long) (t' := .long) (by decide) (by decide)))), Fwn1_34⟩
theorem own_d4_0 : decode jdk_29_method_66_code 0 = .ok (.lload_n 0, 1) := by decide +kernel
theorem own_d4_1 : decode jdk_29_method_66_code 1 = .ok (.lload_n 2, 1) := by decide +kernel
theorem own_d4_2 : decode jdk_29_method_66_code 2 = .ok (.lcmp, 1) := by decide +kernel
theorem own_d4_3 : decode jdk_29_method_66_code 3 = .ok (.ifCond .lt 7, 3) := by decide +kernel
theorem own_d4_6 : decode jdk_29_method_66_code 6 = .ok (.lload_n 0, 1) := by decide +kernel
theorem own_d4_7 : decode jdk_29_method_66_code 7 = .ok (.goto 4, 3) := by decide +kernel
theorem own_d4_10 : decode jdk_29_method_66_code 10 = .ok (.lload_n 2, 1) := by decide +kernel
theorem own_d4_11 : decode jdk_29_method_66_code 11 = .ok (.lreturn, 1) := by decide +kernel
def own_j4_0 (q4_0 : Int64) (q4_1 : Int64) : Int64 := if q4_0 < q4_1 then q4_1 else q4_0
theorem own_ef4 (m : MethodId) (q4_0 : Int64) (q4_1 : Int64) : entryFrame m #[(.long q4_0), (.long q4_1)] 4 = mkF m 0 #[.val (.long q4_0), .second, .val (.long q4_1), .second] [] := by first | (simp [entryFrame, mkF, argsToLocals, Value.category]; done) | rfl
def own_Q4 (Z : State) (q4_0 : Int64) (q4_1 : Int64) (h0 : Heap) (n0 : Nat) (v : Option Value) (h : Heap) (L : List Loc) : Prop := v = some (.long (own_j4_0 q4_0 q4_1)) ∧ Fr n0 L ∧ h = h0
set_option maxRecDepth 65536 in
set_option maxHeartbeats 40000000 in
theorem own_rm4 (l : Launch) (Z : State) (a0 : Array Value) (hw : ∀ d ∈ tables_1, d.before a0 Z = true) (ws : List Jvm.Cond) (q4_0 : Int64) (q4_1 : Int64) (h0 : Heap) (n0 : Nat) (Z0 : n0 ≤ h0.size) :
    MetFree l (⟨"java/lang/Math", "max", "(JJ)J"⟩ : MethodName) (head1 (Jvm.Cond.code (⟨"java/lang/Math", "max", "(JJ)J"⟩ : MethodName) jdk_29_method_66_code 4 (some .long) :: ws) ({ frames := 0, cells := 0, slots := 0, locals := 0 } : Room)) (fun a U => a = #[(.long q4_0), (.long q4_1)] ∧ Z.Warmed39 U.vm ∧ U.heap = h0) (fun _ _ _ _ _ => True) (fun _ U o U' => ∃ v L, o = .returned v ∧ own_Q4 Z q4_0 q4_1 h0 n0 v U'.heap L ∧ FrameEnd U o U' L ({ frames := 0, cells := 0, slots := 0, locals := 0 } : Room).cells ({ frames := 0, cells := 0, slots := 0, locals := 0 } : Room).slots) := by
  refine MetFree.of_bodySF (Jvm.Free.JP.mathPlain rfl (by decide +kernel)) hisR ?_
  intro p e s m args below meth c s₁ Bd hml0 hP hK
  obtain ⟨rfl, hZ, hh⟩ := hP
  have hx := Bd.exec
  have hby := Bd.bytes
  have hml : c.maxLocals = 4 := hml0
  have hown : s.vm.findClass "java/lang/Math" = some m.cls := findClass_of_methodNamed Bd.named
  have hnm := (name_of_methodNamed Bd.named Bd.method).1
  have X0 : Stand p l e ({ frames := 0, cells := 0, slots := 0, locals := 0 } : Room) s m #[(.long q4_0), (.long q4_1)] below meth c s₁ [] 0 0 := Stand.of_body Bd
  have e0 : s₁.heap = h0 := by rw [← hh, Bd.state]; rfl
  have N0 := Fr.nil n0
  have Zr : h0.size ≤ h0.size := Nat.le_refl _
  have pre0 : ∀ t, Steps p.tables e below (s₁.setTop (mkF m 0 #[.val (.long q4_0), .second, .val (.long q4_1), .second] [])) t → Steps p.tables e below (s₁.setTop (entryFrame m #[(.long q4_0), (.long q4_1)] 4)) t := fun t k => castTop (own_ef4 m q4_0 q4_1) k
  obtain ⟨Tj4_1, lj4_1, Xj4_1, Nj4_1, ej4_1, stj4_1⟩ : ∃ (T' : State) (l' : List Loc), Stand p l e ({ frames := 0, cells := 0, slots := 0, locals := 0 } : Room) s m #[(.long q4_0), (.long q4_1)] below meth c T' l' 0 0 ∧ Fr n0 l' ∧ T'.heap = h0 ∧ ∀ target, Steps p.tables e below (T'.setTop (mkF m 11 #[.val (.long q4_0), .second, .val (.long q4_1), .second] [(.long (own_j4_0 q4_0 q4_1))])) target → Steps p.tables e below (s₁.setTop (mkF m 3 #[.val (.long q4_0), .second, .val (.long q4_1), .second] [(.int (XT.cmpL q4_0 q4_1))])) target := by
    by_cases hj4_1 : q4_0 < q4_1
    · refine ⟨_, _, X0, N0, e0, fun target kt => ?_⟩
      rw [(show (own_j4_0 q4_0 q4_1) = q4_1 from if_pos hj4_1)] at kt
      show Steps p.tables e below (s₁.setTop (mkF m 3 #[.val (.long q4_0), .second, .val (.long q4_1), .second] [(.int (XT.cmpL q4_0 q4_1))])) _
      refine XS.ifYes X0.here hx rfl (pc0 := 3) (pc' := 10) rfl (hb hby own_d4_3) rfl (XT.ll_lt_t hj4_1) (by decide) (by decide) ?_
      refine XT.lloadN X0.here hx rfl (hb hby own_d4_10) rfl ?_
      exact kt
    · refine ⟨_, _, X0, N0, e0, fun target kt => ?_⟩
      rw [(show (own_j4_0 q4_0 q4_1) = q4_0 from if_neg hj4_1)] at kt
      show Steps p.tables e below (s₁.setTop (mkF m 3 #[.val (.long q4_0), .second, .val (.long q4_1), .second] [(.int (XT.cmpL q4_0 q4_1))])) _
      refine XS.ifNo X0.here hx rfl (hb hby own_d4_3) rfl (XT.ll_lt_f hj4_1) ?_
      refine XT.lloadN X0.here hx rfl (hb hby own_d4_6) rfl ?_
      refine XS.goto X0.here hx rfl (pc0 := 7) (pc' := 11) rfl (hb hby own_d4_7) (by decide) (by decide) ?_
      exact kt
  obtain ⟨fs, hr, hrun, hended, hW, hsame⟩ := Xj4_1.leave (v := some (.long (own_j4_0 q4_0 q4_1))) (fun h => by rw [Bd.returns] at h; cases h)
  refine ⟨_, _, pre0 _ (?_), hrun, hended, _, _, rfl, ?_, ⟨_, rfl⟩, hW, hsame.mono (by decide) (by decide)⟩
  · show Steps p.tables e below (s₁.setTop (mkF m 0 #[.val (.long q4_0), .second, .val (.long q4_1), .second] [])) _
    refine XT.lloadN X0.here hx rfl (hb hby own_d4_0) rfl ?_
    refine XT.lloadN X0.here hx rfl (hb hby own_d4_1) rfl ?_
    refine XT.lcmp X0.here hx rfl (hb hby own_d4_2) rfl ?_
    show Steps p.tables e below (s₁.setTop (mkF m 3 #[.val (.long q4_0), .second, .val (.long q4_1), .second] [(.int (XT.cmpL q4_0 q4_1))])) _
    refine stj4_1 _ ?_
    show Steps p.tables e below (Tj4_1.setTop (mkF m 11 #[.val (.long q4_0), .second, .val (.long q4_1), .second] [(.long (own_j4_0 q4_0 q4_1))])) _
    jvm_step Xj4_1.here [Xj4_1.here.top, hx, (hb hby own_d4_11), Xj4_1.method', Bd.returns, narrow]
    first | (intro acts; rw [hr _ acts rfl rfl rfl]) | rw [hr _ _ rfl rfl rfl]
    exact Steps.refl _
  · show own_Q4 Z q4_0 q4_1 h0 n0 _ Tj4_1.heap _
    rw [ej4_1]
    exact ⟨rfl, Nj4_1, rfl⟩
theorem own_pd0 : parseMethodDescriptor "(JJ)J" = some ⟨[.long, .long], some .long⟩ := by decide +kernel
theorem own_pd1 : parseMethodDescriptor "(IIIJJJJJJ)V" = some ⟨[.int, .int, .int, .long, .long, .long, .long, .long, .long], none⟩ := by decide +kernel
theorem own_d3_0 : decode prog_14_method_10_code 0 = .ok (.new 8, 3) := by decide +kernel
theorem own_d3_3 : decode prog_14_method_10_code 3 = .ok (.dup, 1) := by decide +kernel
theorem own_d3_4 : decode prog_14_method_10_code 4 = .ok (.aload_n 0, 1) := by decide +kernel
theorem own_d3_5 : decode prog_14_method_10_code 5 = .ok (.getfield 7, 3) := by decide +kernel
theorem own_d3_8 : decode prog_14_method_10_code 8 = .ok (.aload_n 1, 1) := by decide +kernel
theorem own_d3_9 : decode prog_14_method_10_code 9 = .ok (.getfield 7, 3) := by decide +kernel
theorem own_d3_12 : decode prog_14_method_10_code 12 = .ok (.iadd, 1) := by decide +kernel
theorem own_d3_13 : decode prog_14_method_10_code 13 = .ok (.aload_n 0, 1) := by decide +kernel
theorem own_d3_14 : decode prog_14_method_10_code 14 = .ok (.getfield 13, 3) := by decide +kernel
theorem own_d3_17 : decode prog_14_method_10_code 17 = .ok (.aload_n 1, 1) := by decide +kernel
theorem own_d3_18 : decode prog_14_method_10_code 18 = .ok (.getfield 13, 3) := by decide +kernel
theorem own_d3_21 : decode prog_14_method_10_code 21 = .ok (.iadd, 1) := by decide +kernel
theorem own_d3_22 : decode prog_14_method_10_code 22 = .ok (.aload_n 0, 1) := by decide +kernel
theorem own_d3_23 : decode prog_14_method_10_code 23 = .ok (.getfield 16, 3) := by decide +kernel
theorem own_d3_26 : decode prog_14_method_10_code 26 = .ok (.aload_n 1, 1) := by decide +kernel
theorem own_d3_27 : decode prog_14_method_10_code 27 = .ok (.getfield 16, 3) := by decide +kernel
theorem own_d3_30 : decode prog_14_method_10_code 30 = .ok (.iadd, 1) := by decide +kernel
theorem own_d3_31 : decode prog_14_method_10_code 31 = .ok (.aload_n 0, 1) := by decide +kernel
theorem own_d3_32 : decode prog_14_method_10_code 32 = .ok (.getfield 19, 3) := by decide +kernel
theorem own_d3_35 : decode prog_14_method_10_code 35 = .ok (.aload_n 1, 1) := by decide +kernel
theorem own_d3_36 : decode prog_14_method_10_code 36 = .ok (.getfield 19, 3) := by decide +kernel
theorem own_d3_39 : decode prog_14_method_10_code 39 = .ok (.ladd, 1) := by decide +kernel
theorem own_d3_40 : decode prog_14_method_10_code 40 = .ok (.aload_n 0, 1) := by decide +kernel
theorem own_d3_41 : decode prog_14_method_10_code 41 = .ok (.getfield 23, 3) := by decide +kernel
theorem own_d3_44 : decode prog_14_method_10_code 44 = .ok (.aload_n 1, 1) := by decide +kernel
theorem own_d3_45 : decode prog_14_method_10_code 45 = .ok (.getfield 23, 3) := by decide +kernel
theorem own_d3_48 : decode prog_14_method_10_code 48 = .ok (.ladd, 1) := by decide +kernel
theorem own_d3_49 : decode prog_14_method_10_code 49 = .ok (.aload_n 0, 1) := by decide +kernel
theorem own_d3_50 : decode prog_14_method_10_code 50 = .ok (.getfield 26, 3) := by decide +kernel
theorem own_d3_53 : decode prog_14_method_10_code 53 = .ok (.aload_n 1, 1) := by decide +kernel
theorem own_d3_54 : decode prog_14_method_10_code 54 = .ok (.getfield 26, 3) := by decide +kernel
theorem own_d3_57 : decode prog_14_method_10_code 57 = .ok (.ladd, 1) := by decide +kernel
theorem own_d3_58 : decode prog_14_method_10_code 58 = .ok (.aload_n 0, 1) := by decide +kernel
theorem own_d3_59 : decode prog_14_method_10_code 59 = .ok (.getfield 29, 3) := by decide +kernel
theorem own_d3_62 : decode prog_14_method_10_code 62 = .ok (.aload_n 1, 1) := by decide +kernel
theorem own_d3_63 : decode prog_14_method_10_code 63 = .ok (.getfield 29, 3) := by decide +kernel
theorem own_d3_66 : decode prog_14_method_10_code 66 = .ok (.ladd, 1) := by decide +kernel
theorem own_d3_67 : decode prog_14_method_10_code 67 = .ok (.aload_n 0, 1) := by decide +kernel
theorem own_d3_68 : decode prog_14_method_10_code 68 = .ok (.getfield 32, 3) := by decide +kernel
theorem own_d3_71 : decode prog_14_method_10_code 71 = .ok (.aload_n 1, 1) := by decide +kernel
theorem own_d3_72 : decode prog_14_method_10_code 72 = .ok (.getfield 32, 3) := by decide +kernel
theorem own_d3_75 : decode prog_14_method_10_code 75 = .ok (.ladd, 1) := by decide +kernel
theorem own_d3_76 : decode prog_14_method_10_code 76 = .ok (.aload_n 0, 1) := by decide +kernel
theorem own_d3_77 : decode prog_14_method_10_code 77 = .ok (.getfield 35, 3) := by decide +kernel
theorem own_d3_80 : decode prog_14_method_10_code 80 = .ok (.aload_n 1, 1) := by decide +kernel
theorem own_d3_81 : decode prog_14_method_10_code 81 = .ok (.getfield 35, 3) := by decide +kernel
theorem own_d3_84 : decode prog_14_method_10_code 84 = .ok (.invokestatic 50, 3) := by decide +kernel
theorem own_d3_87 : decode prog_14_method_10_code 87 = .ok (.invokespecial 56, 3) := by decide +kernel
theorem own_d3_90 : decode prog_14_method_10_code 90 = .ok (.areturn, 1) := by decide +kernel
theorem own_ef3 (m : MethodId) (a3_0 : Addr) (a3_1 : Addr) : entryFrame m #[(.ref a3_0), (.ref a3_1)] 2 = mkF m 0 #[.val (.ref a3_0), .val (.ref a3_1)] [] := by first | (simp [entryFrame, mkF, argsToLocals, Value.category]; done) | rfl
def own_Q3 (Z : State) (a3_0 : Addr) (a3_1 : Addr) (w_inUse_a3_0 : Int32) (w_inUse_a3_1 : Int32) (w_idle_a3_0 : Int32) (w_idle_a3_1 : Int32) (w_waiting_a3_0 : Int32) (w_waiting_a3_1 : Int32) (w_opened_a3_0 : Int64) (w_opened_a3_1 : Int64) (w_closed_a3_0 : Int64) (w_closed_a3_1 : Int64) (w_calls_a3_0 : Int64) (w_calls_a3_1 : Int64) (w_timeouts_a3_0 : Int64) (w_timeouts_a3_1 : Int64) (w_totalWaitMicros_a3_0 : Int64) (w_totalWaitMicros_a3_1 : Int64) (w_longestWaitNanos_a3_0 : Int64) (w_longestWaitNanos_a3_1 : Int64) (h0 : Heap) (n0 : Nat) (v : Option Value) (h : Heap) (L : List Loc) : Prop := ∃ (bn3_1 : Addr), v = some (.ref bn3_1) ∧ Fr n0 L ∧ Keep h0 h [] ∧ h0.size ≤ bn3_1 ∧ Exa Z h bn3_1 "com/example/ostia/ostia/PoolStatus" ∧ Fld Z h bn3_1 "com/example/ostia/ostia/PoolStatus" "inUse" "I" (.int (w_inUse_a3_0 + w_inUse_a3_1)) ∧ Fld Z h bn3_1 "com/example/ostia/ostia/PoolStatus" "idle" "I" (.int (w_idle_a3_0 + w_idle_a3_1)) ∧ Fld Z h bn3_1 "com/example/ostia/ostia/PoolStatus" "waiting" "I" (.int (w_waiting_a3_0 + w_waiting_a3_1)) ∧ Fld Z h bn3_1 "com/example/ostia/ostia/PoolStatus" "opened" "J" (.long (w_opened_a3_0 + w_opened_a3_1)) ∧ Fld Z h bn3_1 "com/example/ostia/ostia/PoolStatus" "closed" "J" (.long (w_closed_a3_0 + w_closed_a3_1)) ∧ Fld Z h bn3_1 "com/example/ostia/ostia/PoolStatus" "calls" "J" (.long (w_calls_a3_0 + w_calls_a3_1)) ∧ Fld Z h bn3_1 "com/example/ostia/ostia/PoolStatus" "timeouts" "J" (.long (w_timeouts_a3_0 + w_timeouts_a3_1)) ∧ Fld Z h bn3_1 "com/example/ostia/ostia/PoolStatus" "totalWaitMicros" "J" (.long (w_totalWaitMicros_a3_0 + w_totalWaitMicros_a3_1)) ∧ Fld Z h bn3_1 "com/example/ostia/ostia/PoolStatus" "longestWaitNanos" "J" (.long (own_j4_0 w_longestWaitNanos_a3_0 w_longestWaitNanos_a3_1))
set_option maxRecDepth 65536 in
set_option maxHeartbeats 40000000 in
theorem own_rm3 (l : Launch) (Z : State) (a0 : Array Value) (hw : ∀ d ∈ tables_1, d.before a0 Z = true) (ws : List Jvm.Cond) (a3_0 : Addr) (a3_1 : Addr) (w_inUse_a3_0 : Int32) (w_inUse_a3_1 : Int32) (w_idle_a3_0 : Int32) (w_idle_a3_1 : Int32) (w_waiting_a3_0 : Int32) (w_waiting_a3_1 : Int32) (w_opened_a3_0 : Int64) (w_opened_a3_1 : Int64) (w_closed_a3_0 : Int64) (w_closed_a3_1 : Int64) (w_calls_a3_0 : Int64) (w_calls_a3_1 : Int64) (w_timeouts_a3_0 : Int64) (w_timeouts_a3_1 : Int64) (w_totalWaitMicros_a3_0 : Int64) (w_totalWaitMicros_a3_1 : Int64) (w_longestWaitNanos_a3_0 : Int64) (w_longestWaitNanos_a3_1 : Int64) (h0 : Heap) (n0 : Nat) (Z0 : n0 ≤ h0.size) (F_inUse_a3_0 : Fld Z h0 a3_0 "com/example/ostia/ostia/PoolStatus" "inUse" "I" (.int w_inUse_a3_0)) (F_inUse_a3_1 : Fld Z h0 a3_1 "com/example/ostia/ostia/PoolStatus" "inUse" "I" (.int w_inUse_a3_1)) (F_idle_a3_0 : Fld Z h0 a3_0 "com/example/ostia/ostia/PoolStatus" "idle" "I" (.int w_idle_a3_0)) (F_idle_a3_1 : Fld Z h0 a3_1 "com/example/ostia/ostia/PoolStatus" "idle" "I" (.int w_idle_a3_1)) (F_waiting_a3_0 : Fld Z h0 a3_0 "com/example/ostia/ostia/PoolStatus" "waiting" "I" (.int w_waiting_a3_0)) (F_waiting_a3_1 : Fld Z h0 a3_1 "com/example/ostia/ostia/PoolStatus" "waiting" "I" (.int w_waiting_a3_1)) (F_opened_a3_0 : Fld Z h0 a3_0 "com/example/ostia/ostia/PoolStatus" "opened" "J" (.long w_opened_a3_0)) (F_opened_a3_1 : Fld Z h0 a3_1 "com/example/ostia/ostia/PoolStatus" "opened" "J" (.long w_opened_a3_1)) (F_closed_a3_0 : Fld Z h0 a3_0 "com/example/ostia/ostia/PoolStatus" "closed" "J" (.long w_closed_a3_0)) (F_closed_a3_1 : Fld Z h0 a3_1 "com/example/ostia/ostia/PoolStatus" "closed" "J" (.long w_closed_a3_1)) (F_calls_a3_0 : Fld Z h0 a3_0 "com/example/ostia/ostia/PoolStatus" "calls" "J" (.long w_calls_a3_0)) (F_calls_a3_1 : Fld Z h0 a3_1 "com/example/ostia/ostia/PoolStatus" "calls" "J" (.long w_calls_a3_1)) (F_timeouts_a3_0 : Fld Z h0 a3_0 "com/example/ostia/ostia/PoolStatus" "timeouts" "J" (.long w_timeouts_a3_0)) (F_timeouts_a3_1 : Fld Z h0 a3_1 "com/example/ostia/ostia/PoolStatus" "timeouts" "J" (.long w_timeouts_a3_1)) (F_totalWaitMicros_a3_0 : Fld Z h0 a3_0 "com/example/ostia/ostia/PoolStatus" "totalWaitMicros" "J" (.long w_totalWaitMicros_a3_0)) (F_totalWaitMicros_a3_1 : Fld Z h0 a3_1 "com/example/ostia/ostia/PoolStatus" "totalWaitMicros" "J" (.long w_totalWaitMicros_a3_1)) (F_longestWaitNanos_a3_0 : Fld Z h0 a3_0 "com/example/ostia/ostia/PoolStatus" "longestWaitNanos" "J" (.long w_longestWaitNanos_a3_0)) (F_longestWaitNanos_a3_1 : Fld Z h0 a3_1 "com/example/ostia/ostia/PoolStatus" "longestWaitNanos" "J" (.long w_longestWaitNanos_a3_1)) :
    MetFree l (⟨"com/example/ostia/ostia/PoolStatus", "plus", "(Lcom/example/ostia/ostia/PoolStatus;)Lcom/example/ostia/ostia/PoolStatus;"⟩ : MethodName) (head1 (Jvm.Cond.code (⟨"com/example/ostia/ostia/PoolStatus", "plus", "(Lcom/example/ostia/ostia/PoolStatus;)Lcom/example/ostia/ostia/PoolStatus;"⟩ : MethodName) prog_14_method_10_code 2 (some (.object "com/example/ostia/ostia/PoolStatus")) :: ws) ({ frames := 2, cells := 1, slots := 9, locals := 40 } : Room)) (fun a U => a = #[(.ref a3_0), (.ref a3_1)] ∧ Z.Warmed39 U.vm ∧ U.heap = h0) (fun _ _ _ _ _ => True) (fun _ U o U' => ∃ v L, o = .returned v ∧ own_Q3 Z a3_0 a3_1 w_inUse_a3_0 w_inUse_a3_1 w_idle_a3_0 w_idle_a3_1 w_waiting_a3_0 w_waiting_a3_1 w_opened_a3_0 w_opened_a3_1 w_closed_a3_0 w_closed_a3_1 w_calls_a3_0 w_calls_a3_1 w_timeouts_a3_0 w_timeouts_a3_1 w_totalWaitMicros_a3_0 w_totalWaitMicros_a3_1 w_longestWaitNanos_a3_0 w_longestWaitNanos_a3_1 h0 n0 v U'.heap L ∧ FrameEnd U o U' L ({ frames := 2, cells := 1, slots := 9, locals := 40 } : Room).cells ({ frames := 2, cells := 1, slots := 9, locals := 40 } : Room).slots) := by
  refine MetFree.of_bodySF (plainFor_of_name own_pn0) hisR ?_
  intro p e s m args below meth c s₁ Bd hml0 hP hK
  obtain ⟨rfl, hZ, hh⟩ := hP
  have hx := Bd.exec
  have hby := Bd.bytes
  have hml : c.maxLocals = 2 := hml0
  have hown : s.vm.findClass "com/example/ostia/ostia/PoolStatus" = some m.cls := findClass_of_methodNamed Bd.named
  have hnm := (name_of_methodNamed Bd.named Bd.method).1
  have X0 : Stand p l e ({ frames := 2, cells := 1, slots := 9, locals := 40 } : Room) s m #[(.ref a3_0), (.ref a3_1)] below meth c s₁ [] 0 0 := Stand.of_body Bd
  have e0 : s₁.heap = h0 := by rw [← hh, Bd.state]; rfl
  have N0 := Fr.nil n0
  have Zr : h0.size ≤ h0.size := Nat.le_refl _
  have pre0 : ∀ t, Steps p.tables e below (s₁.setTop (mkF m 0 #[.val (.ref a3_0), .val (.ref a3_1)] [])) t → Steps p.tables e below (s₁.setTop (entryFrame m #[(.ref a3_0), (.ref a3_1)] 2)) t := fun t k => castTop (own_ef3 m a3_0 a3_1) k
  obtain ⟨Tn3_1, hn3_1, Xn3_1, en3_1, En3_1, An3_1, Dn3_1, -, stn3_1⟩ := newO X0 hx hZ hown (own_W hw 32 rfl) (own_W hw 1 rfl) (own_W hw 2 rfl) e0 (g := (mkF m 0 #[.val (.ref a3_0), .val (.ref a3_1)] [])) rfl (hb hby own_d3_0) (by decide) (by decide)
  obtain ⟨bn3_1, gn3_1⟩ : ∃ z, z = h0.size := ⟨_, rfl⟩
  rw [← gn3_1] at An3_1 Dn3_1 stn3_1
  have g_bn3_1 : n0 ≤ bn3_1 := Nat.le_trans Z0 (Nat.le_of_eq gn3_1.symm)
  have sz_bn3_1 : h0.size ≤ bn3_1 := Nat.le_trans Zr (Nat.le_of_eq gn3_1.symm)
  have sz3_2 : h0.size ≤ hn3_1.size := Nat.le_trans Zr En3_1.1
  have F_inUse_bn3_1 : Fld Z hn3_1 bn3_1 "com/example/ostia/ostia/PoolStatus" "inUse" "I" (.int (0 : Int32)) := Dn3_1 (Or.inr (own_W hw 10 rfl)) (ty := .int) (by decide)
  have F_idle_bn3_1 : Fld Z hn3_1 bn3_1 "com/example/ostia/ostia/PoolStatus" "idle" "I" (.int (0 : Int32)) := Dn3_1 (Or.inr (own_W hw 12 rfl)) (ty := .int) (by decide)
  have F_waiting_bn3_1 : Fld Z hn3_1 bn3_1 "com/example/ostia/ostia/PoolStatus" "waiting" "I" (.int (0 : Int32)) := Dn3_1 (Or.inr (own_W hw 14 rfl)) (ty := .int) (by decide)
  have F_opened_bn3_1 : Fld Z hn3_1 bn3_1 "com/example/ostia/ostia/PoolStatus" "opened" "J" (.long (0 : Int64)) := Dn3_1 (Or.inr (own_W hw 16 rfl)) (ty := .long) (by decide)
  have F_closed_bn3_1 : Fld Z hn3_1 bn3_1 "com/example/ostia/ostia/PoolStatus" "closed" "J" (.long (0 : Int64)) := Dn3_1 (Or.inr (own_W hw 18 rfl)) (ty := .long) (by decide)
  have F_calls_bn3_1 : Fld Z hn3_1 bn3_1 "com/example/ostia/ostia/PoolStatus" "calls" "J" (.long (0 : Int64)) := Dn3_1 (Or.inr (own_W hw 20 rfl)) (ty := .long) (by decide)
  have F_timeouts_bn3_1 : Fld Z hn3_1 bn3_1 "com/example/ostia/ostia/PoolStatus" "timeouts" "J" (.long (0 : Int64)) := Dn3_1 (Or.inr (own_W hw 22 rfl)) (ty := .long) (by decide)
  have F_totalWaitMicros_bn3_1 : Fld Z hn3_1 bn3_1 "com/example/ostia/ostia/PoolStatus" "totalWaitMicros" "J" (.long (0 : Int64)) := Dn3_1 (Or.inr (own_W hw 24 rfl)) (ty := .long) (by decide)
  have F_longestWaitNanos_bn3_1 : Fld Z hn3_1 bn3_1 "com/example/ostia/ostia/PoolStatus" "longestWaitNanos" "J" (.long (0 : Int64)) := Dn3_1 (Or.inr (own_W hw 26 rfl)) (ty := .long) (by decide)
  have F3_3 := (F_inUse_a3_0.ext En3_1)
  obtain ⟨Tn3_4, Xn3_4, en3_4, stn3_4⟩ := getF Xn3_1 hx hZ hown (host := "") (Or.inl (own_W hw 9 rfl)) Via.refl en3_1 F3_3 (g := (mkF m 5 #[.val (.ref a3_0), .val (.ref a3_1)] [(.ref a3_0), (.ref bn3_1), (.ref bn3_1)])) rfl rfl (hb hby own_d3_5)
  have F3_5 := (F_inUse_a3_1.ext En3_1)
  obtain ⟨Tn3_6, Xn3_6, en3_6, stn3_6⟩ := getF Xn3_4 hx hZ hown (host := "") (Or.inl (own_W hw 9 rfl)) Via.refl en3_4 F3_5 (g := (mkF m 9 #[.val (.ref a3_0), .val (.ref a3_1)] [(.ref a3_1), (.int w_inUse_a3_0), (.ref bn3_1), (.ref bn3_1)])) rfl rfl (hb hby own_d3_9)
  have F3_7 := (F_idle_a3_0.ext En3_1)
  obtain ⟨Tn3_8, Xn3_8, en3_8, stn3_8⟩ := getF Xn3_6 hx hZ hown (host := "") (Or.inl (own_W hw 11 rfl)) Via.refl en3_6 F3_7 (g := (mkF m 14 #[.val (.ref a3_0), .val (.ref a3_1)] [(.ref a3_0), (.int (w_inUse_a3_0 + w_inUse_a3_1)), (.ref bn3_1), (.ref bn3_1)])) rfl rfl (hb hby own_d3_14)
  have F3_9 := (F_idle_a3_1.ext En3_1)
  obtain ⟨Tn3_10, Xn3_10, en3_10, stn3_10⟩ := getF Xn3_8 hx hZ hown (host := "") (Or.inl (own_W hw 11 rfl)) Via.refl en3_8 F3_9 (g := (mkF m 18 #[.val (.ref a3_0), .val (.ref a3_1)] [(.ref a3_1), (.int w_idle_a3_0), (.int (w_inUse_a3_0 + w_inUse_a3_1)), (.ref bn3_1), (.ref bn3_1)])) rfl rfl (hb hby own_d3_18)
  have F3_11 := (F_waiting_a3_0.ext En3_1)
  obtain ⟨Tn3_12, Xn3_12, en3_12, stn3_12⟩ := getF Xn3_10 hx hZ hown (host := "") (Or.inl (own_W hw 13 rfl)) Via.refl en3_10 F3_11 (g := (mkF m 23 #[.val (.ref a3_0), .val (.ref a3_1)] [(.ref a3_0), (.int (w_idle_a3_0 + w_idle_a3_1)), (.int (w_inUse_a3_0 + w_inUse_a3_1)), (.ref bn3_1), (.ref bn3_1)])) rfl rfl (hb hby own_d3_23)
  have F3_13 := (F_waiting_a3_1.ext En3_1)
  obtain ⟨Tn3_14, Xn3_14, en3_14, stn3_14⟩ := getF Xn3_12 hx hZ hown (host := "") (Or.inl (own_W hw 13 rfl)) Via.refl en3_12 F3_13 (g := (mkF m 27 #[.val (.ref a3_0), .val (.ref a3_1)] [(.ref a3_1), (.int w_waiting_a3_0), (.int (w_idle_a3_0 + w_idle_a3_1)), (.int (w_inUse_a3_0 + w_inUse_a3_1)), (.ref bn3_1), (.ref bn3_1)])) rfl rfl (hb hby own_d3_27)
  have F3_15 := (F_opened_a3_0.ext En3_1)
  obtain ⟨Tn3_16, Xn3_16, en3_16, stn3_16⟩ := getF Xn3_14 hx hZ hown (host := "") (Or.inl (own_W hw 15 rfl)) Via.refl en3_14 F3_15 (g := (mkF m 32 #[.val (.ref a3_0), .val (.ref a3_1)] [(.ref a3_0), (.int (w_waiting_a3_0 + w_waiting_a3_1)), (.int (w_idle_a3_0 + w_idle_a3_1)), (.int (w_inUse_a3_0 + w_inUse_a3_1)), (.ref bn3_1), (.ref bn3_1)])) rfl rfl (hb hby own_d3_32)
  have F3_17 := (F_opened_a3_1.ext En3_1)
  obtain ⟨Tn3_18, Xn3_18, en3_18, stn3_18⟩ := getF Xn3_16 hx hZ hown (host := "") (Or.inl (own_W hw 15 rfl)) Via.refl en3_16 F3_17 (g := (mkF m 36 #[.val (.ref a3_0), .val (.ref a3_1)] [(.ref a3_1), (.long w_opened_a3_0), (.int (w_waiting_a3_0 + w_waiting_a3_1)), (.int (w_idle_a3_0 + w_idle_a3_1)), (.int (w_inUse_a3_0 + w_inUse_a3_1)), (.ref bn3_1), (.ref bn3_1)])) rfl rfl (hb hby own_d3_36)
  have F3_19 := (F_closed_a3_0.ext En3_1)
  obtain ⟨Tn3_20, Xn3_20, en3_20, stn3_20⟩ := getF Xn3_18 hx hZ hown (host := "") (Or.inl (own_W hw 17 rfl)) Via.refl en3_18 F3_19 (g := (mkF m 41 #[.val (.ref a3_0), .val (.ref a3_1)] [(.ref a3_0), (.long (w_opened_a3_0 + w_opened_a3_1)), (.int (w_waiting_a3_0 + w_waiting_a3_1)), (.int (w_idle_a3_0 + w_idle_a3_1)), (.int (w_inUse_a3_0 + w_inUse_a3_1)), (.ref bn3_1), (.ref bn3_1)])) rfl rfl (hb hby own_d3_41)
  have F3_21 := (F_closed_a3_1.ext En3_1)
  obtain ⟨Tn3_22, Xn3_22, en3_22, stn3_22⟩ := getF Xn3_20 hx hZ hown (host := "") (Or.inl (own_W hw 17 rfl)) Via.refl en3_20 F3_21 (g := (mkF m 45 #[.val (.ref a3_0), .val (.ref a3_1)] [(.ref a3_1), (.long w_closed_a3_0), (.long (w_opened_a3_0 + w_opened_a3_1)), (.int (w_waiting_a3_0 + w_waiting_a3_1)), (.int (w_idle_a3_0 + w_idle_a3_1)), (.int (w_inUse_a3_0 + w_inUse_a3_1)), (.ref bn3_1), (.ref bn3_1)])) rfl rfl (hb hby own_d3_45)
  have F3_23 := (F_calls_a3_0.ext En3_1)
  obtain ⟨Tn3_24, Xn3_24, en3_24, stn3_24⟩ := getF Xn3_22 hx hZ hown (host := "") (Or.inl (own_W hw 19 rfl)) Via.refl en3_22 F3_23 (g := (mkF m 50 #[.val (.ref a3_0), .val (.ref a3_1)] [(.ref a3_0), (.long (w_closed_a3_0 + w_closed_a3_1)), (.long (w_opened_a3_0 + w_opened_a3_1)), (.int (w_waiting_a3_0 + w_waiting_a3_1)), (.int (w_idle_a3_0 + w_idle_a3_1)), (.int (w_inUse_a3_0 + w_inUse_a3_1)), (.ref bn3_1), (.ref bn3_1)])) rfl rfl (hb hby own_d3_50)
  have F3_25 := (F_calls_a3_1.ext En3_1)
  obtain ⟨Tn3_26, Xn3_26, en3_26, stn3_26⟩ := getF Xn3_24 hx hZ hown (host := "") (Or.inl (own_W hw 19 rfl)) Via.refl en3_24 F3_25 (g := (mkF m 54 #[.val (.ref a3_0), .val (.ref a3_1)] [(.ref a3_1), (.long w_calls_a3_0), (.long (w_closed_a3_0 + w_closed_a3_1)), (.long (w_opened_a3_0 + w_opened_a3_1)), (.int (w_waiting_a3_0 + w_waiting_a3_1)), (.int (w_idle_a3_0 + w_idle_a3_1)), (.int (w_inUse_a3_0 + w_inUse_a3_1)), (.ref bn3_1), (.ref bn3_1)])) rfl rfl (hb hby own_d3_54)
  have F3_27 := (F_timeouts_a3_0.ext En3_1)
  obtain ⟨Tn3_28, Xn3_28, en3_28, stn3_28⟩ := getF Xn3_26 hx hZ hown (host := "") (Or.inl (own_W hw 21 rfl)) Via.refl en3_26 F3_27 (g := (mkF m 59 #[.val (.ref a3_0), .val (.ref a3_1)] [(.ref a3_0), (.long (w_calls_a3_0 + w_calls_a3_1)), (.long (w_closed_a3_0 + w_closed_a3_1)), (.long (w_opened_a3_0 + w_opened_a3_1)), (.int (w_waiting_a3_0 + w_waiting_a3_1)), (.int (w_idle_a3_0 + w_idle_a3_1)), (.int (w_inUse_a3_0 + w_inUse_a3_1)), (.ref bn3_1), (.ref bn3_1)])) rfl rfl (hb hby own_d3_59)
  have F3_29 := (F_timeouts_a3_1.ext En3_1)
  obtain ⟨Tn3_30, Xn3_30, en3_30, stn3_30⟩ := getF Xn3_28 hx hZ hown (host := "") (Or.inl (own_W hw 21 rfl)) Via.refl en3_28 F3_29 (g := (mkF m 63 #[.val (.ref a3_0), .val (.ref a3_1)] [(.ref a3_1), (.long w_timeouts_a3_0), (.long (w_calls_a3_0 + w_calls_a3_1)), (.long (w_closed_a3_0 + w_closed_a3_1)), (.long (w_opened_a3_0 + w_opened_a3_1)), (.int (w_waiting_a3_0 + w_waiting_a3_1)), (.int (w_idle_a3_0 + w_idle_a3_1)), (.int (w_inUse_a3_0 + w_inUse_a3_1)), (.ref bn3_1), (.ref bn3_1)])) rfl rfl (hb hby own_d3_63)
  have F3_31 := (F_totalWaitMicros_a3_0.ext En3_1)
  obtain ⟨Tn3_32, Xn3_32, en3_32, stn3_32⟩ := getF Xn3_30 hx hZ hown (host := "") (Or.inl (own_W hw 23 rfl)) Via.refl en3_30 F3_31 (g := (mkF m 68 #[.val (.ref a3_0), .val (.ref a3_1)] [(.ref a3_0), (.long (w_timeouts_a3_0 + w_timeouts_a3_1)), (.long (w_calls_a3_0 + w_calls_a3_1)), (.long (w_closed_a3_0 + w_closed_a3_1)), (.long (w_opened_a3_0 + w_opened_a3_1)), (.int (w_waiting_a3_0 + w_waiting_a3_1)), (.int (w_idle_a3_0 + w_idle_a3_1)), (.int (w_inUse_a3_0 + w_inUse_a3_1)), (.ref bn3_1), (.ref bn3_1)])) rfl rfl (hb hby own_d3_68)
  have F3_33 := (F_totalWaitMicros_a3_1.ext En3_1)
  obtain ⟨Tn3_34, Xn3_34, en3_34, stn3_34⟩ := getF Xn3_32 hx hZ hown (host := "") (Or.inl (own_W hw 23 rfl)) Via.refl en3_32 F3_33 (g := (mkF m 72 #[.val (.ref a3_0), .val (.ref a3_1)] [(.ref a3_1), (.long w_totalWaitMicros_a3_0), (.long (w_timeouts_a3_0 + w_timeouts_a3_1)), (.long (w_calls_a3_0 + w_calls_a3_1)), (.long (w_closed_a3_0 + w_closed_a3_1)), (.long (w_opened_a3_0 + w_opened_a3_1)), (.int (w_waiting_a3_0 + w_waiting_a3_1)), (.int (w_idle_a3_0 + w_idle_a3_1)), (.int (w_inUse_a3_0 + w_inUse_a3_1)), (.ref bn3_1), (.ref bn3_1)])) rfl rfl (hb hby own_d3_72)
  have F3_35 := (F_longestWaitNanos_a3_0.ext En3_1)
  obtain ⟨Tn3_36, Xn3_36, en3_36, stn3_36⟩ := getF Xn3_34 hx hZ hown (host := "") (Or.inl (own_W hw 25 rfl)) Via.refl en3_34 F3_35 (g := (mkF m 77 #[.val (.ref a3_0), .val (.ref a3_1)] [(.ref a3_0), (.long (w_totalWaitMicros_a3_0 + w_totalWaitMicros_a3_1)), (.long (w_timeouts_a3_0 + w_timeouts_a3_1)), (.long (w_calls_a3_0 + w_calls_a3_1)), (.long (w_closed_a3_0 + w_closed_a3_1)), (.long (w_opened_a3_0 + w_opened_a3_1)), (.int (w_waiting_a3_0 + w_waiting_a3_1)), (.int (w_idle_a3_0 + w_idle_a3_1)), (.int (w_inUse_a3_0 + w_inUse_a3_1)), (.ref bn3_1), (.ref bn3_1)])) rfl rfl (hb hby own_d3_77)
  have F3_37 := (F_longestWaitNanos_a3_1.ext En3_1)
  obtain ⟨Tn3_38, Xn3_38, en3_38, stn3_38⟩ := getF Xn3_36 hx hZ hown (host := "") (Or.inl (own_W hw 25 rfl)) Via.refl en3_36 F3_37 (g := (mkF m 81 #[.val (.ref a3_0), .val (.ref a3_1)] [(.ref a3_1), (.long w_longestWaitNanos_a3_0), (.long (w_totalWaitMicros_a3_0 + w_totalWaitMicros_a3_1)), (.long (w_timeouts_a3_0 + w_timeouts_a3_1)), (.long (w_calls_a3_0 + w_calls_a3_1)), (.long (w_closed_a3_0 + w_closed_a3_1)), (.long (w_opened_a3_0 + w_opened_a3_1)), (.int (w_waiting_a3_0 + w_waiting_a3_1)), (.int (w_idle_a3_0 + w_idle_a3_1)), (.int (w_inUse_a3_0 + w_inUse_a3_1)), (.ref bn3_1), (.ref bn3_1)])) rfl rfl (hb hby own_d3_81)
  obtain ⟨_, _, ⟨Tk3_39, Lk3_39, kk3_39, nk3_39⟩, -, Xk3_39, ⟨Lck3_39, hQk3_39, lk3_39, yk3_39, zk3_39⟩, stk3_39⟩ := Jvm.LawKit.callS Xn3_38 hx (y := (⟨"java/lang/Math", "max", "(JJ)J"⟩ : MethodName)) hown (mvT hZ (own_W hw 33 rfl)) (mvT hZ (own_W hw 34 rfl)) (mvT hZ (own_W hw 35 rfl)) (mvT hZ (own_W hw 36 rfl)) (by decide) (backOf (W := 15) (own_rm4 l Z a0 hw [] w_longestWaitNanos_a3_0 w_longestWaitNanos_a3_1 hn3_1 n0 (Nat.le_trans Z0 sz3_2)) hZ (own_W hw 36 rfl) (own_W hw 35 rfl) (by decide) (by decide)) (g := (mkF m 84 #[.val (.ref a3_0), .val (.ref a3_1)] [(.long w_longestWaitNanos_a3_1), (.long w_longestWaitNanos_a3_0), (.long (w_totalWaitMicros_a3_0 + w_totalWaitMicros_a3_1)), (.long (w_timeouts_a3_0 + w_timeouts_a3_1)), (.long (w_calls_a3_0 + w_calls_a3_1)), (.long (w_closed_a3_0 + w_closed_a3_1)), (.long (w_opened_a3_0 + w_opened_a3_1)), (.int (w_waiting_a3_0 + w_waiting_a3_1)), (.int (w_idle_a3_0 + w_idle_a3_1)), (.int (w_inUse_a3_0 + w_inUse_a3_1)), (.ref bn3_1), (.ref bn3_1)])) rfl (by rw [hml]; rfl) (argsL := [(.long w_longestWaitNanos_a3_0), (.long w_longestWaitNanos_a3_1)]) (rest := [(.long (w_totalWaitMicros_a3_0 + w_totalWaitMicros_a3_1)), (.long (w_timeouts_a3_0 + w_timeouts_a3_1)), (.long (w_calls_a3_0 + w_calls_a3_1)), (.long (w_closed_a3_0 + w_closed_a3_1)), (.long (w_opened_a3_0 + w_opened_a3_1)), (.int (w_waiting_a3_0 + w_waiting_a3_1)), (.int (w_idle_a3_0 + w_idle_a3_1)), (.int (w_inUse_a3_0 + w_inUse_a3_1)), (.ref bn3_1), (.ref bn3_1)]) (lenOf own_pd0 rfl) rfl (by show 2 * 0 + _ ≤ _; exact Nat.le_of_eq rfl) (hb hby own_d3_84) (fun _ _ => ⟨rfl, en3_38, (by decide : 1 + 0 ≤ _), (by decide : 9 + 0 ≤ _)⟩)
  dsimp only [Pt.U, Pt.locs, Pt.cells, Pt.slots] at Xk3_39 lk3_39 yk3_39 zk3_39 stk3_39 hQk3_39
  replace lk3_39 := lk3_39.symm; replace yk3_39 := yk3_39.symm; replace zk3_39 := zk3_39.symm; subst lk3_39 yk3_39 zk3_39
  obtain ⟨rfl, Nk3_39q, ek3_39⟩ := hQk3_39
  have Nk3_39 := Fr.app N0 Nk3_39q
  obtain ⟨_, _, ⟨Tk3_40, Lk3_40, kk3_40, nk3_40⟩, -, Xk3_40, ⟨Lck3_40, hQk3_40, lk3_40, yk3_40, zk3_40⟩, stk3_40⟩ := Xk3_39.specialBack hx (y := (⟨"com/example/ostia/ostia/PoolStatus", "<init>", "(IIIJJJJJJ)V"⟩ : MethodName)) rfl hown (mvT hZ (own_W hw 37 rfl)) (mvT hZ (own_W hw 4 rfl)) (mvT hZ (own_W hw 5 rfl)) (by decide) (backOf (W := 1) (own_rm1 l Z a0 hw [] bn3_1 (w_inUse_a3_0 + w_inUse_a3_1) (w_idle_a3_0 + w_idle_a3_1) (w_waiting_a3_0 + w_waiting_a3_1) (w_opened_a3_0 + w_opened_a3_1) (w_closed_a3_0 + w_closed_a3_1) (w_calls_a3_0 + w_calls_a3_1) (w_timeouts_a3_0 + w_timeouts_a3_1) (w_totalWaitMicros_a3_0 + w_totalWaitMicros_a3_1) (own_j4_0 w_longestWaitNanos_a3_0 w_longestWaitNanos_a3_1) (.int (0 : Int32)) (.int (0 : Int32)) (.int (0 : Int32)) (.long (0 : Int64)) (.long (0 : Int64)) (.long (0 : Int64)) (.long (0 : Int64)) (.long (0 : Int64)) (.long (0 : Int64)) hn3_1 n0 (Nat.le_trans Z0 sz3_2) An3_1 F_inUse_bn3_1 g_bn3_1 F_idle_bn3_1 F_waiting_bn3_1 F_opened_bn3_1 F_closed_bn3_1 F_calls_bn3_1 F_timeouts_bn3_1 F_totalWaitMicros_bn3_1 F_longestWaitNanos_bn3_1) hZ (own_W hw 5 rfl) (own_W hw 2 rfl) (by decide) (by decide)) (g := (mkF m 87 #[.val (.ref a3_0), .val (.ref a3_1)] [(.long (own_j4_0 w_longestWaitNanos_a3_0 w_longestWaitNanos_a3_1)), (.long (w_totalWaitMicros_a3_0 + w_totalWaitMicros_a3_1)), (.long (w_timeouts_a3_0 + w_timeouts_a3_1)), (.long (w_calls_a3_0 + w_calls_a3_1)), (.long (w_closed_a3_0 + w_closed_a3_1)), (.long (w_opened_a3_0 + w_opened_a3_1)), (.int (w_waiting_a3_0 + w_waiting_a3_1)), (.int (w_idle_a3_0 + w_idle_a3_1)), (.int (w_inUse_a3_0 + w_inUse_a3_1)), (.ref bn3_1), (.ref bn3_1)])) rfl (by rw [hml]; rfl) (Steps.refl _) (a := bn3_1) (argsL := [(.int (w_inUse_a3_0 + w_inUse_a3_1)), (.int (w_idle_a3_0 + w_idle_a3_1)), (.int (w_waiting_a3_0 + w_waiting_a3_1)), (.long (w_opened_a3_0 + w_opened_a3_1)), (.long (w_closed_a3_0 + w_closed_a3_1)), (.long (w_calls_a3_0 + w_calls_a3_1)), (.long (w_timeouts_a3_0 + w_timeouts_a3_1)), (.long (w_totalWaitMicros_a3_0 + w_totalWaitMicros_a3_1)), (.long (own_j4_0 w_longestWaitNanos_a3_0 w_longestWaitNanos_a3_1))]) (rest := [(.ref bn3_1)]) (lenOf own_pd1 rfl) rfl (by show 2 * 0 + _ ≤ _; exact Nat.le_of_eq rfl) (hb hby own_d3_87) (fun _ _ => ⟨rfl, ek3_39, (by decide : 1 + 0 ≤ _), (by decide : 9 + 0 ≤ _)⟩)
  dsimp only [Pt.U, Pt.locs, Pt.cells, Pt.slots] at Xk3_40 lk3_40 yk3_40 zk3_40 stk3_40 hQk3_40
  replace lk3_40 := lk3_40.symm; replace yk3_40 := yk3_40.symm; replace zk3_40 := zk3_40.symm; subst lk3_40 yk3_40 zk3_40
  obtain ⟨rfl, Nk3_40q, Kk3_40, Qk3_40_0, Qk3_40_1, Qk3_40_2, Qk3_40_3, Qk3_40_4, Qk3_40_5, Qk3_40_6, Qk3_40_7, Qk3_40_8, Qk3_40_9⟩ := hQk3_40
  have sz3_41 : h0.size ≤ Tk3_40.heap.size := Nat.le_trans sz3_2 Kk3_40.1
  have Nk3_40 := Fr.app Nk3_39 Nk3_40q
  obtain ⟨fs, hr, hrun, hended, hW, hsame⟩ := Xk3_40.leave (v := some (.ref bn3_1)) (fun h => by rw [Bd.returns] at h; cases h)
  refine ⟨_, _, pre0 _ (?_), hrun, hended, _, _, rfl, ?_, ⟨_, rfl⟩, hW, hsame.mono (by decide) (by decide)⟩
  · show Steps p.tables e below (s₁.setTop (mkF m 0 #[.val (.ref a3_0), .val (.ref a3_1)] [])) _
    refine stn3_1 _ ?_
    show Steps p.tables e below (Tn3_1.setTop (mkF m 3 #[.val (.ref a3_0), .val (.ref a3_1)] [(.ref bn3_1)])) _
    refine XS.dup Xn3_1.here hx rfl (hb hby own_d3_3) rfl rfl ?_
    refine XS.aloadN Xn3_1.here hx rfl (hb hby own_d3_4) rfl rfl ?_
    refine stn3_4 _ ?_
    show Steps p.tables e below (Tn3_4.setTop (mkF m 8 #[.val (.ref a3_0), .val (.ref a3_1)] [(.int w_inUse_a3_0), (.ref bn3_1), (.ref bn3_1)])) _
    refine XS.aloadN Xn3_4.here hx rfl (hb hby own_d3_8) rfl rfl ?_
    refine stn3_6 _ ?_
    show Steps p.tables e below (Tn3_6.setTop (mkF m 12 #[.val (.ref a3_0), .val (.ref a3_1)] [(.int w_inUse_a3_1), (.int w_inUse_a3_0), (.ref bn3_1), (.ref bn3_1)])) _
    refine XS.iadd Xn3_6.here hx rfl (hb hby own_d3_12) rfl ?_
    refine XS.aloadN Xn3_6.here hx rfl (hb hby own_d3_13) rfl rfl ?_
    refine stn3_8 _ ?_
    show Steps p.tables e below (Tn3_8.setTop (mkF m 17 #[.val (.ref a3_0), .val (.ref a3_1)] [(.int w_idle_a3_0), (.int (w_inUse_a3_0 + w_inUse_a3_1)), (.ref bn3_1), (.ref bn3_1)])) _
    refine XS.aloadN Xn3_8.here hx rfl (hb hby own_d3_17) rfl rfl ?_
    refine stn3_10 _ ?_
    show Steps p.tables e below (Tn3_10.setTop (mkF m 21 #[.val (.ref a3_0), .val (.ref a3_1)] [(.int w_idle_a3_1), (.int w_idle_a3_0), (.int (w_inUse_a3_0 + w_inUse_a3_1)), (.ref bn3_1), (.ref bn3_1)])) _
    refine XS.iadd Xn3_10.here hx rfl (hb hby own_d3_21) rfl ?_
    refine XS.aloadN Xn3_10.here hx rfl (hb hby own_d3_22) rfl rfl ?_
    refine stn3_12 _ ?_
    show Steps p.tables e below (Tn3_12.setTop (mkF m 26 #[.val (.ref a3_0), .val (.ref a3_1)] [(.int w_waiting_a3_0), (.int (w_idle_a3_0 + w_idle_a3_1)), (.int (w_inUse_a3_0 + w_inUse_a3_1)), (.ref bn3_1), (.ref bn3_1)])) _
    refine XS.aloadN Xn3_12.here hx rfl (hb hby own_d3_26) rfl rfl ?_
    refine stn3_14 _ ?_
    show Steps p.tables e below (Tn3_14.setTop (mkF m 30 #[.val (.ref a3_0), .val (.ref a3_1)] [(.int w_waiting_a3_1), (.int w_waiting_a3_0), (.int (w_idle_a3_0 + w_idle_a3_1)), (.int (w_inUse_a3_0 + w_inUse_a3_1)), (.ref bn3_1), (.ref bn3_1)])) _
    refine XS.iadd Xn3_14.here hx rfl (hb hby own_d3_30) rfl ?_
    refine XS.aloadN Xn3_14.here hx rfl (hb hby own_d3_31) rfl rfl ?_
    refine stn3_16 _ ?_
    show Steps p.tables e below (Tn3_16.setTop (mkF m 35 #[.val (.ref a3_0), .val (.ref a3_1)] [(.long w_opened_a3_0), (.int (w_waiting_a3_0 + w_waiting_a3_1)), (.int (w_idle_a3_0 + w_idle_a3_1)), (.int (w_inUse_a3_0 + w_inUse_a3_1)), (.ref bn3_1), (.ref bn3_1)])) _
    refine XS.aloadN Xn3_16.here hx rfl (hb hby own_d3_35) rfl rfl ?_
    refine stn3_18 _ ?_
    show Steps p.tables e below (Tn3_18.setTop (mkF m 39 #[.val (.ref a3_0), .val (.ref a3_1)] [(.long w_opened_a3_1), (.long w_opened_a3_0), (.int (w_waiting_a3_0 + w_waiting_a3_1)), (.int (w_idle_a3_0 + w_idle_a3_1)), (.int (w_inUse_a3_0 + w_inUse_a3_1)), (.ref bn3_1), (.ref bn3_1)])) _
    refine XT.ladd Xn3_18.here hx rfl (hb hby own_d3_39) rfl ?_
    refine XS.aloadN Xn3_18.here hx rfl (hb hby own_d3_40) rfl rfl ?_
    refine stn3_20 _ ?_
    show Steps p.tables e below (Tn3_20.setTop (mkF m 44 #[.val (.ref a3_0), .val (.ref a3_1)] [(.long w_closed_a3_0), (.long (w_opened_a3_0 + w_opened_a3_1)), (.int (w_waiting_a3_0 + w_waiting_a3_1)), (.int (w_idle_a3_0 + w_idle_a3_1)), (.int (w_inUse_a3_0 + w_inUse_a3_1)), (.ref bn3_1), (.ref bn3_1)])) _
    refine XS.aloadN Xn3_20.here hx rfl (hb hby own_d3_44) rfl rfl ?_
    refine stn3_22 _ ?_
    show Steps p.tables e below (Tn3_22.setTop (mkF m 48 #[.val (.ref a3_0), .val (.ref a3_1)] [(.long w_closed_a3_1), (.long w_closed_a3_0), (.long (w_opened_a3_0 + w_opened_a3_1)), (.int (w_waiting_a3_0 + w_waiting_a3_1)), (.int (w_idle_a3_0 + w_idle_a3_1)), (.int (w_inUse_a3_0 + w_inUse_a3_1)), (.ref bn3_1), (.ref bn3_1)])) _
    refine XT.ladd Xn3_22.here hx rfl (hb hby own_d3_48) rfl ?_
    refine XS.aloadN Xn3_22.here hx rfl (hb hby own_d3_49) rfl rfl ?_
    refine stn3_24 _ ?_
    show Steps p.tables e below (Tn3_24.setTop (mkF m 53 #[.val (.ref a3_0), .val (.ref a3_1)] [(.long w_calls_a3_0), (.long (w_closed_a3_0 + w_closed_a3_1)), (.long (w_opened_a3_0 + w_opened_a3_1)), (.int (w_waiting_a3_0 + w_waiting_a3_1)), (.int (w_idle_a3_0 + w_idle_a3_1)), (.int (w_inUse_a3_0 + w_inUse_a3_1)), (.ref bn3_1), (.ref bn3_1)])) _
    refine XS.aloadN Xn3_24.here hx rfl (hb hby own_d3_53) rfl rfl ?_
    refine stn3_26 _ ?_
    show Steps p.tables e below (Tn3_26.setTop (mkF m 57 #[.val (.ref a3_0), .val (.ref a3_1)] [(.long w_calls_a3_1), (.long w_calls_a3_0), (.long (w_closed_a3_0 + w_closed_a3_1)), (.long (w_opened_a3_0 + w_opened_a3_1)), (.int (w_waiting_a3_0 + w_waiting_a3_1)), (.int (w_idle_a3_0 + w_idle_a3_1)), (.int (w_inUse_a3_0 + w_inUse_a3_1)), (.ref bn3_1), (.ref bn3_1)])) _
    refine XT.ladd Xn3_26.here hx rfl (hb hby own_d3_57) rfl ?_
    refine XS.aloadN Xn3_26.here hx rfl (hb hby own_d3_58) rfl rfl ?_
    refine stn3_28 _ ?_
    show Steps p.tables e below (Tn3_28.setTop (mkF m 62 #[.val (.ref a3_0), .val (.ref a3_1)] [(.long w_timeouts_a3_0), (.long (w_calls_a3_0 + w_calls_a3_1)), (.long (w_closed_a3_0 + w_closed_a3_1)), (.long (w_opened_a3_0 + w_opened_a3_1)), (.int (w_waiting_a3_0 + w_waiting_a3_1)), (.int (w_idle_a3_0 + w_idle_a3_1)), (.int (w_inUse_a3_0 + w_inUse_a3_1)), (.ref bn3_1), (.ref bn3_1)])) _
    refine XS.aloadN Xn3_28.here hx rfl (hb hby own_d3_62) rfl rfl ?_
    refine stn3_30 _ ?_
    show Steps p.tables e below (Tn3_30.setTop (mkF m 66 #[.val (.ref a3_0), .val (.ref a3_1)] [(.long w_timeouts_a3_1), (.long w_timeouts_a3_0), (.long (w_calls_a3_0 + w_calls_a3_1)), (.long (w_closed_a3_0 + w_closed_a3_1)), (.long (w_opened_a3_0 + w_opened_a3_1)), (.int (w_waiting_a3_0 + w_waiting_a3_1)), (.int (w_idle_a3_0 + w_idle_a3_1)), (.int (w_inUse_a3_0 + w_inUse_a3_1)), (.ref bn3_1), (.ref bn3_1)])) _
    refine XT.ladd Xn3_30.here hx rfl (hb hby own_d3_66) rfl ?_
    refine XS.aloadN Xn3_30.here hx rfl (hb hby own_d3_67) rfl rfl ?_
    refine stn3_32 _ ?_
    show Steps p.tables e below (Tn3_32.setTop (mkF m 71 #[.val (.ref a3_0), .val (.ref a3_1)] [(.long w_totalWaitMicros_a3_0), (.long (w_timeouts_a3_0 + w_timeouts_a3_1)), (.long (w_calls_a3_0 + w_calls_a3_1)), (.long (w_closed_a3_0 + w_closed_a3_1)), (.long (w_opened_a3_0 + w_opened_a3_1)), (.int (w_waiting_a3_0 + w_waiting_a3_1)), (.int (w_idle_a3_0 + w_idle_a3_1)), (.int (w_inUse_a3_0 + w_inUse_a3_1)), (.ref bn3_1), (.ref bn3_1)])) _
    refine XS.aloadN Xn3_32.here hx rfl (hb hby own_d3_71) rfl rfl ?_
    refine stn3_34 _ ?_
    show Steps p.tables e below (Tn3_34.setTop (mkF m 75 #[.val (.ref a3_0), .val (.ref a3_1)] [(.long w_totalWaitMicros_a3_1), (.long w_totalWaitMicros_a3_0), (.long (w_timeouts_a3_0 + w_timeouts_a3_1)), (.long (w_calls_a3_0 + w_calls_a3_1)), (.long (w_closed_a3_0 + w_closed_a3_1)), (.long (w_opened_a3_0 + w_opened_a3_1)), (.int (w_waiting_a3_0 + w_waiting_a3_1)), (.int (w_idle_a3_0 + w_idle_a3_1)), (.int (w_inUse_a3_0 + w_inUse_a3_1)), (.ref bn3_1), (.ref bn3_1)])) _
    refine XT.ladd Xn3_34.here hx rfl (hb hby own_d3_75) rfl ?_
    refine XS.aloadN Xn3_34.here hx rfl (hb hby own_d3_76) rfl rfl ?_
    refine stn3_36 _ ?_
    show Steps p.tables e below (Tn3_36.setTop (mkF m 80 #[.val (.ref a3_0), .val (.ref a3_1)] [(.long w_longestWaitNanos_a3_0), (.long (w_totalWaitMicros_a3_0 + w_totalWaitMicros_a3_1)), (.long (w_timeouts_a3_0 + w_timeouts_a3_1)), (.long (w_calls_a3_0 + w_calls_a3_1)), (.long (w_closed_a3_0 + w_closed_a3_1)), (.long (w_opened_a3_0 + w_opened_a3_1)), (.int (w_waiting_a3_0 + w_waiting_a3_1)), (.int (w_idle_a3_0 + w_idle_a3_1)), (.int (w_inUse_a3_0 + w_inUse_a3_1)), (.ref bn3_1), (.ref bn3_1)])) _
    refine XS.aloadN Xn3_36.here hx rfl (hb hby own_d3_80) rfl rfl ?_
    refine stn3_38 _ ?_
    show Steps p.tables e below (Tn3_38.setTop (mkF m 84 #[.val (.ref a3_0), .val (.ref a3_1)] [(.long w_longestWaitNanos_a3_1), (.long w_longestWaitNanos_a3_0), (.long (w_totalWaitMicros_a3_0 + w_totalWaitMicros_a3_1)), (.long (w_timeouts_a3_0 + w_timeouts_a3_1)), (.long (w_calls_a3_0 + w_calls_a3_1)), (.long (w_closed_a3_0 + w_closed_a3_1)), (.long (w_opened_a3_0 + w_opened_a3_1)), (.int (w_waiting_a3_0 + w_waiting_a3_1)), (.int (w_idle_a3_0 + w_idle_a3_1)), (.int (w_inUse_a3_0 + w_inUse_a3_1)), (.ref bn3_1), (.ref bn3_1)])) _
    refine stk3_39 _ ?_
    show Steps p.tables e below (Tk3_39.setTop (mkF m 87 #[.val (.ref a3_0), .val (.ref a3_1)] [(.long (own_j4_0 w_longestWaitNanos_a3_0 w_longestWaitNanos_a3_1)), (.long (w_totalWaitMicros_a3_0 + w_totalWaitMicros_a3_1)), (.long (w_timeouts_a3_0 + w_timeouts_a3_1)), (.long (w_calls_a3_0 + w_calls_a3_1)), (.long (w_closed_a3_0 + w_closed_a3_1)), (.long (w_opened_a3_0 + w_opened_a3_1)), (.int (w_waiting_a3_0 + w_waiting_a3_1)), (.int (w_idle_a3_0 + w_idle_a3_1)), (.int (w_inUse_a3_0 + w_inUse_a3_1)), (.ref bn3_1), (.ref bn3_1)])) _
    refine stk3_40.trans ?_
    show Steps p.tables e below (Tk3_40.setTop (mkF m 90 #[.val (.ref a3_0), .val (.ref a3_1)] [(.ref bn3_1)])) _
    jvm_step Xk3_40.here [Xk3_40.here.top, hx, (hb hby own_d3_90), Xk3_40.method', Bd.returns, Value.isRef, FieldType.isReference]
    first | (intro acts; rw [hr _ acts rfl rfl rfl]) | rw [hr _ _ rfl rfl rfl]
    exact Steps.refl _
  · show own_Q3 Z a3_0 a3_1 w_inUse_a3_0 w_inUse_a3_1 w_idle_a3_0 w_idle_a3_1 w_waiting_a3_0 w_waiting_a3_1 w_opened_a3_0 w_opened_a3_1 w_closed_a3_0 w_closed_a3_1 w_calls_a3_0 w_calls_a3_1 w_timeouts_a3_0 w_timeouts_a3_1 w_totalWaitMicros_a3_0 w_totalWaitMicros_a3_1 w_longestWaitNanos_a3_0 w_longestWaitNanos_a3_1 h0 n0 _ Tk3_40.heap _
    exact ⟨bn3_1, rfl, Nk3_40, (((Keep.refl h0 []).ext En3_1).trans Kk3_40 (allS (Or.inr sz_bn3_1) all0)), sz_bn3_1, Qk3_40_0, Qk3_40_1, Qk3_40_2, Qk3_40_3, Qk3_40_4, Qk3_40_5, Qk3_40_6, Qk3_40_7, Qk3_40_8, Qk3_40_9⟩
theorem own_d5_0 : decode prog_14_method_2_code 0 = .ok (.aload_n 0, 1) := by decide +kernel
theorem own_d5_1 : decode prog_14_method_2_code 1 = .ok (.getfield 7, 3) := by decide +kernel
theorem own_d5_4 : decode prog_14_method_2_code 4 = .ok (.ireturn, 1) := by decide +kernel
theorem own_ef5 (m : MethodId) (a5_0 : Addr) : entryFrame m #[(.ref a5_0)] 1 = mkF m 0 #[.val (.ref a5_0)] [] := by first | (simp [entryFrame, mkF, argsToLocals, Value.category]; done) | rfl
def own_Q5 (Z : State) (a5_0 : Addr) (w_inUse_a5_0 : Int32) (h0 : Heap) (n0 : Nat) (v : Option Value) (h : Heap) (L : List Loc) : Prop := v = some (.int w_inUse_a5_0) ∧ Fr n0 L ∧ h = h0
set_option maxRecDepth 65536 in
set_option maxHeartbeats 40000000 in
theorem own_rm5 (l : Launch) (Z : State) (a0 : Array Value) (hw : ∀ d ∈ tables_1, d.before a0 Z = true) (ws : List Jvm.Cond) (a5_0 : Addr) (w_inUse_a5_0 : Int32) (h0 : Heap) (n0 : Nat) (Z0 : n0 ≤ h0.size) (F_inUse_a5_0 : Fld Z h0 a5_0 "com/example/ostia/ostia/PoolStatus" "inUse" "I" (.int w_inUse_a5_0)) :
    MetFree l (⟨"com/example/ostia/ostia/PoolStatus", "inUse", "()I"⟩ : MethodName) (head1 (Jvm.Cond.code (⟨"com/example/ostia/ostia/PoolStatus", "inUse", "()I"⟩ : MethodName) prog_14_method_2_code 1 (some .int) :: ws) ({ frames := 0, cells := 0, slots := 0, locals := 0 } : Room)) (fun a U => a = #[(.ref a5_0)] ∧ Z.Warmed39 U.vm ∧ U.heap = h0) (fun _ _ _ _ _ => True) (fun _ U o U' => ∃ v L, o = .returned v ∧ own_Q5 Z a5_0 w_inUse_a5_0 h0 n0 v U'.heap L ∧ FrameEnd U o U' L ({ frames := 0, cells := 0, slots := 0, locals := 0 } : Room).cells ({ frames := 0, cells := 0, slots := 0, locals := 0 } : Room).slots) := by
  refine MetFree.of_bodySF (plainFor_of_name own_pn0) hisR ?_
  intro p e s m args below meth c s₁ Bd hml0 hP hK
  obtain ⟨rfl, hZ, hh⟩ := hP
  have hx := Bd.exec
  have hby := Bd.bytes
  have hml : c.maxLocals = 1 := hml0
  have hown : s.vm.findClass "com/example/ostia/ostia/PoolStatus" = some m.cls := findClass_of_methodNamed Bd.named
  have hnm := (name_of_methodNamed Bd.named Bd.method).1
  have X0 : Stand p l e ({ frames := 0, cells := 0, slots := 0, locals := 0 } : Room) s m #[(.ref a5_0)] below meth c s₁ [] 0 0 := Stand.of_body Bd
  have e0 : s₁.heap = h0 := by rw [← hh, Bd.state]; rfl
  have N0 := Fr.nil n0
  have Zr : h0.size ≤ h0.size := Nat.le_refl _
  have pre0 : ∀ t, Steps p.tables e below (s₁.setTop (mkF m 0 #[.val (.ref a5_0)] [])) t → Steps p.tables e below (s₁.setTop (entryFrame m #[(.ref a5_0)] 1)) t := fun t k => castTop (own_ef5 m a5_0) k
  obtain ⟨Tn5_1, Xn5_1, en5_1, stn5_1⟩ := getF X0 hx hZ hown (host := "") (Or.inl (own_W hw 9 rfl)) Via.refl e0 F_inUse_a5_0 (g := (mkF m 1 #[.val (.ref a5_0)] [(.ref a5_0)])) rfl rfl (hb hby own_d5_1)
  obtain ⟨fs, hr, hrun, hended, hW, hsame⟩ := Xn5_1.leave (v := some (.int w_inUse_a5_0)) (fun h => by rw [Bd.returns] at h; cases h)
  refine ⟨_, _, pre0 _ (?_), hrun, hended, _, _, rfl, ?_, ⟨_, rfl⟩, hW, hsame.mono (by decide) (by decide)⟩
  · show Steps p.tables e below (s₁.setTop (mkF m 0 #[.val (.ref a5_0)] [])) _
    refine XS.aloadN X0.here hx rfl (hb hby own_d5_0) rfl rfl ?_
    refine stn5_1 _ ?_
    show Steps p.tables e below (Tn5_1.setTop (mkF m 4 #[.val (.ref a5_0)] [(.int w_inUse_a5_0)])) _
    exact retI Xn5_1 hx Bd.returns (hb hby own_d5_4) hr
  · show own_Q5 Z a5_0 w_inUse_a5_0 h0 n0 _ Tn5_1.heap _
    rw [en5_1]
    exact ⟨rfl, N0, rfl⟩
theorem own_d6_0 : decode prog_14_method_3_code 0 = .ok (.aload_n 0, 1) := by decide +kernel
theorem own_d6_1 : decode prog_14_method_3_code 1 = .ok (.getfield 13, 3) := by decide +kernel
theorem own_d6_4 : decode prog_14_method_3_code 4 = .ok (.ireturn, 1) := by decide +kernel
theorem own_ef6 (m : MethodId) (a6_0 : Addr) : entryFrame m #[(.ref a6_0)] 1 = mkF m 0 #[.val (.ref a6_0)] [] := by first | (simp [entryFrame, mkF, argsToLocals, Value.category]; done) | rfl
def own_Q6 (Z : State) (a6_0 : Addr) (w_idle_a6_0 : Int32) (h0 : Heap) (n0 : Nat) (v : Option Value) (h : Heap) (L : List Loc) : Prop := v = some (.int w_idle_a6_0) ∧ Fr n0 L ∧ h = h0
set_option maxRecDepth 65536 in
set_option maxHeartbeats 40000000 in
theorem own_rm6 (l : Launch) (Z : State) (a0 : Array Value) (hw : ∀ d ∈ tables_1, d.before a0 Z = true) (ws : List Jvm.Cond) (a6_0 : Addr) (w_idle_a6_0 : Int32) (h0 : Heap) (n0 : Nat) (Z0 : n0 ≤ h0.size) (F_idle_a6_0 : Fld Z h0 a6_0 "com/example/ostia/ostia/PoolStatus" "idle" "I" (.int w_idle_a6_0)) :
    MetFree l (⟨"com/example/ostia/ostia/PoolStatus", "idle", "()I"⟩ : MethodName) (head1 (Jvm.Cond.code (⟨"com/example/ostia/ostia/PoolStatus", "idle", "()I"⟩ : MethodName) prog_14_method_3_code 1 (some .int) :: ws) ({ frames := 0, cells := 0, slots := 0, locals := 0 } : Room)) (fun a U => a = #[(.ref a6_0)] ∧ Z.Warmed39 U.vm ∧ U.heap = h0) (fun _ _ _ _ _ => True) (fun _ U o U' => ∃ v L, o = .returned v ∧ own_Q6 Z a6_0 w_idle_a6_0 h0 n0 v U'.heap L ∧ FrameEnd U o U' L ({ frames := 0, cells := 0, slots := 0, locals := 0 } : Room).cells ({ frames := 0, cells := 0, slots := 0, locals := 0 } : Room).slots) := by
  refine MetFree.of_bodySF (plainFor_of_name own_pn0) hisR ?_
  intro p e s m args below meth c s₁ Bd hml0 hP hK
  obtain ⟨rfl, hZ, hh⟩ := hP
  have hx := Bd.exec
  have hby := Bd.bytes
  have hml : c.maxLocals = 1 := hml0
  have hown : s.vm.findClass "com/example/ostia/ostia/PoolStatus" = some m.cls := findClass_of_methodNamed Bd.named
  have hnm := (name_of_methodNamed Bd.named Bd.method).1
  have X0 : Stand p l e ({ frames := 0, cells := 0, slots := 0, locals := 0 } : Room) s m #[(.ref a6_0)] below meth c s₁ [] 0 0 := Stand.of_body Bd
  have e0 : s₁.heap = h0 := by rw [← hh, Bd.state]; rfl
  have N0 := Fr.nil n0
  have Zr : h0.size ≤ h0.size := Nat.le_refl _
  have pre0 : ∀ t, Steps p.tables e below (s₁.setTop (mkF m 0 #[.val (.ref a6_0)] [])) t → Steps p.tables e below (s₁.setTop (entryFrame m #[(.ref a6_0)] 1)) t := fun t k => castTop (own_ef6 m a6_0) k
  obtain ⟨Tn6_1, Xn6_1, en6_1, stn6_1⟩ := getF X0 hx hZ hown (host := "") (Or.inl (own_W hw 11 rfl)) Via.refl e0 F_idle_a6_0 (g := (mkF m 1 #[.val (.ref a6_0)] [(.ref a6_0)])) rfl rfl (hb hby own_d6_1)
  obtain ⟨fs, hr, hrun, hended, hW, hsame⟩ := Xn6_1.leave (v := some (.int w_idle_a6_0)) (fun h => by rw [Bd.returns] at h; cases h)
  refine ⟨_, _, pre0 _ (?_), hrun, hended, _, _, rfl, ?_, ⟨_, rfl⟩, hW, hsame.mono (by decide) (by decide)⟩
  · show Steps p.tables e below (s₁.setTop (mkF m 0 #[.val (.ref a6_0)] [])) _
    refine XS.aloadN X0.here hx rfl (hb hby own_d6_0) rfl rfl ?_
    refine stn6_1 _ ?_
    show Steps p.tables e below (Tn6_1.setTop (mkF m 4 #[.val (.ref a6_0)] [(.int w_idle_a6_0)])) _
    exact retI Xn6_1 hx Bd.returns (hb hby own_d6_4) hr
  · show own_Q6 Z a6_0 w_idle_a6_0 h0 n0 _ Tn6_1.heap _
    rw [en6_1]
    exact ⟨rfl, N0, rfl⟩
theorem own_d7_0 : decode prog_14_method_4_code 0 = .ok (.aload_n 0, 1) := by decide +kernel
theorem own_d7_1 : decode prog_14_method_4_code 1 = .ok (.getfield 16, 3) := by decide +kernel
theorem own_d7_4 : decode prog_14_method_4_code 4 = .ok (.ireturn, 1) := by decide +kernel
theorem own_ef7 (m : MethodId) (a7_0 : Addr) : entryFrame m #[(.ref a7_0)] 1 = mkF m 0 #[.val (.ref a7_0)] [] := by first | (simp [entryFrame, mkF, argsToLocals, Value.category]; done) | rfl
def own_Q7 (Z : State) (a7_0 : Addr) (w_waiting_a7_0 : Int32) (h0 : Heap) (n0 : Nat) (v : Option Value) (h : Heap) (L : List Loc) : Prop := v = some (.int w_waiting_a7_0) ∧ Fr n0 L ∧ h = h0
set_option maxRecDepth 65536 in
set_option maxHeartbeats 40000000 in
theorem own_rm7 (l : Launch) (Z : State) (a0 : Array Value) (hw : ∀ d ∈ tables_1, d.before a0 Z = true) (ws : List Jvm.Cond) (a7_0 : Addr) (w_waiting_a7_0 : Int32) (h0 : Heap) (n0 : Nat) (Z0 : n0 ≤ h0.size) (F_waiting_a7_0 : Fld Z h0 a7_0 "com/example/ostia/ostia/PoolStatus" "waiting" "I" (.int w_waiting_a7_0)) :
    MetFree l (⟨"com/example/ostia/ostia/PoolStatus", "waiting", "()I"⟩ : MethodName) (head1 (Jvm.Cond.code (⟨"com/example/ostia/ostia/PoolStatus", "waiting", "()I"⟩ : MethodName) prog_14_method_4_code 1 (some .int) :: ws) ({ frames := 0, cells := 0, slots := 0, locals := 0 } : Room)) (fun a U => a = #[(.ref a7_0)] ∧ Z.Warmed39 U.vm ∧ U.heap = h0) (fun _ _ _ _ _ => True) (fun _ U o U' => ∃ v L, o = .returned v ∧ own_Q7 Z a7_0 w_waiting_a7_0 h0 n0 v U'.heap L ∧ FrameEnd U o U' L ({ frames := 0, cells := 0, slots := 0, locals := 0 } : Room).cells ({ frames := 0, cells := 0, slots := 0, locals := 0 } : Room).slots) := by
  refine MetFree.of_bodySF (plainFor_of_name own_pn0) hisR ?_
  intro p e s m args below meth c s₁ Bd hml0 hP hK
  obtain ⟨rfl, hZ, hh⟩ := hP
  have hx := Bd.exec
  have hby := Bd.bytes
  have hml : c.maxLocals = 1 := hml0
  have hown : s.vm.findClass "com/example/ostia/ostia/PoolStatus" = some m.cls := findClass_of_methodNamed Bd.named
  have hnm := (name_of_methodNamed Bd.named Bd.method).1
  have X0 : Stand p l e ({ frames := 0, cells := 0, slots := 0, locals := 0 } : Room) s m #[(.ref a7_0)] below meth c s₁ [] 0 0 := Stand.of_body Bd
  have e0 : s₁.heap = h0 := by rw [← hh, Bd.state]; rfl
  have N0 := Fr.nil n0
  have Zr : h0.size ≤ h0.size := Nat.le_refl _
  have pre0 : ∀ t, Steps p.tables e below (s₁.setTop (mkF m 0 #[.val (.ref a7_0)] [])) t → Steps p.tables e below (s₁.setTop (entryFrame m #[(.ref a7_0)] 1)) t := fun t k => castTop (own_ef7 m a7_0) k
  obtain ⟨Tn7_1, Xn7_1, en7_1, stn7_1⟩ := getF X0 hx hZ hown (host := "") (Or.inl (own_W hw 13 rfl)) Via.refl e0 F_waiting_a7_0 (g := (mkF m 1 #[.val (.ref a7_0)] [(.ref a7_0)])) rfl rfl (hb hby own_d7_1)
  obtain ⟨fs, hr, hrun, hended, hW, hsame⟩ := Xn7_1.leave (v := some (.int w_waiting_a7_0)) (fun h => by rw [Bd.returns] at h; cases h)
  refine ⟨_, _, pre0 _ (?_), hrun, hended, _, _, rfl, ?_, ⟨_, rfl⟩, hW, hsame.mono (by decide) (by decide)⟩
  · show Steps p.tables e below (s₁.setTop (mkF m 0 #[.val (.ref a7_0)] [])) _
    refine XS.aloadN X0.here hx rfl (hb hby own_d7_0) rfl rfl ?_
    refine stn7_1 _ ?_
    show Steps p.tables e below (Tn7_1.setTop (mkF m 4 #[.val (.ref a7_0)] [(.int w_waiting_a7_0)])) _
    exact retI Xn7_1 hx Bd.returns (hb hby own_d7_4) hr
  · show own_Q7 Z a7_0 w_waiting_a7_0 h0 n0 _ Tn7_1.heap _
    rw [en7_1]
    exact ⟨rfl, N0, rfl⟩
theorem own_d8_0 : decode prog_14_method_5_code 0 = .ok (.aload_n 0, 1) := by decide +kernel
theorem own_d8_1 : decode prog_14_method_5_code 1 = .ok (.getfield 19, 3) := by decide +kernel
theorem own_d8_4 : decode prog_14_method_5_code 4 = .ok (.lreturn, 1) := by decide +kernel
theorem own_ef8 (m : MethodId) (a8_0 : Addr) : entryFrame m #[(.ref a8_0)] 1 = mkF m 0 #[.val (.ref a8_0)] [] := by first | (simp [entryFrame, mkF, argsToLocals, Value.category]; done) | rfl
def own_Q8 (Z : State) (a8_0 : Addr) (w_opened_a8_0 : Int64) (h0 : Heap) (n0 : Nat) (v : Option Value) (h : Heap) (L : List Loc) : Prop := v = some (.long w_opened_a8_0) ∧ Fr n0 L ∧ h = h0
set_option maxRecDepth 65536 in
set_option maxHeartbeats 40000000 in
theorem own_rm8 (l : Launch) (Z : State) (a0 : Array Value) (hw : ∀ d ∈ tables_1, d.before a0 Z = true) (ws : List Jvm.Cond) (a8_0 : Addr) (w_opened_a8_0 : Int64) (h0 : Heap) (n0 : Nat) (Z0 : n0 ≤ h0.size) (F_opened_a8_0 : Fld Z h0 a8_0 "com/example/ostia/ostia/PoolStatus" "opened" "J" (.long w_opened_a8_0)) :
    MetFree l (⟨"com/example/ostia/ostia/PoolStatus", "opened", "()J"⟩ : MethodName) (head1 (Jvm.Cond.code (⟨"com/example/ostia/ostia/PoolStatus", "opened", "()J"⟩ : MethodName) prog_14_method_5_code 1 (some .long) :: ws) ({ frames := 0, cells := 0, slots := 0, locals := 0 } : Room)) (fun a U => a = #[(.ref a8_0)] ∧ Z.Warmed39 U.vm ∧ U.heap = h0) (fun _ _ _ _ _ => True) (fun _ U o U' => ∃ v L, o = .returned v ∧ own_Q8 Z a8_0 w_opened_a8_0 h0 n0 v U'.heap L ∧ FrameEnd U o U' L ({ frames := 0, cells := 0, slots := 0, locals := 0 } : Room).cells ({ frames := 0, cells := 0, slots := 0, locals := 0 } : Room).slots) := by
  refine MetFree.of_bodySF (plainFor_of_name own_pn0) hisR ?_
  intro p e s m args below meth c s₁ Bd hml0 hP hK
  obtain ⟨rfl, hZ, hh⟩ := hP
  have hx := Bd.exec
  have hby := Bd.bytes
  have hml : c.maxLocals = 1 := hml0
  have hown : s.vm.findClass "com/example/ostia/ostia/PoolStatus" = some m.cls := findClass_of_methodNamed Bd.named
  have hnm := (name_of_methodNamed Bd.named Bd.method).1
  have X0 : Stand p l e ({ frames := 0, cells := 0, slots := 0, locals := 0 } : Room) s m #[(.ref a8_0)] below meth c s₁ [] 0 0 := Stand.of_body Bd
  have e0 : s₁.heap = h0 := by rw [← hh, Bd.state]; rfl
  have N0 := Fr.nil n0
  have Zr : h0.size ≤ h0.size := Nat.le_refl _
  have pre0 : ∀ t, Steps p.tables e below (s₁.setTop (mkF m 0 #[.val (.ref a8_0)] [])) t → Steps p.tables e below (s₁.setTop (entryFrame m #[(.ref a8_0)] 1)) t := fun t k => castTop (own_ef8 m a8_0) k
  obtain ⟨Tn8_1, Xn8_1, en8_1, stn8_1⟩ := getF X0 hx hZ hown (host := "") (Or.inl (own_W hw 15 rfl)) Via.refl e0 F_opened_a8_0 (g := (mkF m 1 #[.val (.ref a8_0)] [(.ref a8_0)])) rfl rfl (hb hby own_d8_1)
  obtain ⟨fs, hr, hrun, hended, hW, hsame⟩ := Xn8_1.leave (v := some (.long w_opened_a8_0)) (fun h => by rw [Bd.returns] at h; cases h)
  refine ⟨_, _, pre0 _ (?_), hrun, hended, _, _, rfl, ?_, ⟨_, rfl⟩, hW, hsame.mono (by decide) (by decide)⟩
  · show Steps p.tables e below (s₁.setTop (mkF m 0 #[.val (.ref a8_0)] [])) _
    refine XS.aloadN X0.here hx rfl (hb hby own_d8_0) rfl rfl ?_
    refine stn8_1 _ ?_
    show Steps p.tables e below (Tn8_1.setTop (mkF m 4 #[.val (.ref a8_0)] [(.long w_opened_a8_0)])) _
    jvm_step Xn8_1.here [Xn8_1.here.top, hx, (hb hby own_d8_4), Xn8_1.method', Bd.returns, narrow]
    first | (intro acts; rw [hr _ acts rfl rfl rfl]) | rw [hr _ _ rfl rfl rfl]
    exact Steps.refl _
  · show own_Q8 Z a8_0 w_opened_a8_0 h0 n0 _ Tn8_1.heap _
    rw [en8_1]
    exact ⟨rfl, N0, rfl⟩
theorem own_d9_0 : decode prog_14_method_6_code 0 = .ok (.aload_n 0, 1) := by decide +kernel
theorem own_d9_1 : decode prog_14_method_6_code 1 = .ok (.getfield 23, 3) := by decide +kernel
theorem own_d9_4 : decode prog_14_method_6_code 4 = .ok (.lreturn, 1) := by decide +kernel
theorem own_ef9 (m : MethodId) (a9_0 : Addr) : entryFrame m #[(.ref a9_0)] 1 = mkF m 0 #[.val (.ref a9_0)] [] := by first | (simp [entryFrame, mkF, argsToLocals, Value.category]; done) | rfl
def own_Q9 (Z : State) (a9_0 : Addr) (w_closed_a9_0 : Int64) (h0 : Heap) (n0 : Nat) (v : Option Value) (h : Heap) (L : List Loc) : Prop := v = some (.long w_closed_a9_0) ∧ Fr n0 L ∧ h = h0
set_option maxRecDepth 65536 in
set_option maxHeartbeats 40000000 in
theorem own_rm9 (l : Launch) (Z : State) (a0 : Array Value) (hw : ∀ d ∈ tables_1, d.before a0 Z = true) (ws : List Jvm.Cond) (a9_0 : Addr) (w_closed_a9_0 : Int64) (h0 : Heap) (n0 : Nat) (Z0 : n0 ≤ h0.size) (F_closed_a9_0 : Fld Z h0 a9_0 "com/example/ostia/ostia/PoolStatus" "closed" "J" (.long w_closed_a9_0)) :
    MetFree l (⟨"com/example/ostia/ostia/PoolStatus", "closed", "()J"⟩ : MethodName) (head1 (Jvm.Cond.code (⟨"com/example/ostia/ostia/PoolStatus", "closed", "()J"⟩ : MethodName) prog_14_method_6_code 1 (some .long) :: ws) ({ frames := 0, cells := 0, slots := 0, locals := 0 } : Room)) (fun a U => a = #[(.ref a9_0)] ∧ Z.Warmed39 U.vm ∧ U.heap = h0) (fun _ _ _ _ _ => True) (fun _ U o U' => ∃ v L, o = .returned v ∧ own_Q9 Z a9_0 w_closed_a9_0 h0 n0 v U'.heap L ∧ FrameEnd U o U' L ({ frames := 0, cells := 0, slots := 0, locals := 0 } : Room).cells ({ frames := 0, cells := 0, slots := 0, locals := 0 } : Room).slots) := by
  refine MetFree.of_bodySF (plainFor_of_name own_pn0) hisR ?_
  intro p e s m args below meth c s₁ Bd hml0 hP hK
  obtain ⟨rfl, hZ, hh⟩ := hP
  have hx := Bd.exec
  have hby := Bd.bytes
  have hml : c.maxLocals = 1 := hml0
  have hown : s.vm.findClass "com/example/ostia/ostia/PoolStatus" = some m.cls := findClass_of_methodNamed Bd.named
  have hnm := (name_of_methodNamed Bd.named Bd.method).1
  have X0 : Stand p l e ({ frames := 0, cells := 0, slots := 0, locals := 0 } : Room) s m #[(.ref a9_0)] below meth c s₁ [] 0 0 := Stand.of_body Bd
  have e0 : s₁.heap = h0 := by rw [← hh, Bd.state]; rfl
  have N0 := Fr.nil n0
  have Zr : h0.size ≤ h0.size := Nat.le_refl _
  have pre0 : ∀ t, Steps p.tables e below (s₁.setTop (mkF m 0 #[.val (.ref a9_0)] [])) t → Steps p.tables e below (s₁.setTop (entryFrame m #[(.ref a9_0)] 1)) t := fun t k => castTop (own_ef9 m a9_0) k
  obtain ⟨Tn9_1, Xn9_1, en9_1, stn9_1⟩ := getF X0 hx hZ hown (host := "") (Or.inl (own_W hw 17 rfl)) Via.refl e0 F_closed_a9_0 (g := (mkF m 1 #[.val (.ref a9_0)] [(.ref a9_0)])) rfl rfl (hb hby own_d9_1)
  obtain ⟨fs, hr, hrun, hended, hW, hsame⟩ := Xn9_1.leave (v := some (.long w_closed_a9_0)) (fun h => by rw [Bd.returns] at h; cases h)
  refine ⟨_, _, pre0 _ (?_), hrun, hended, _, _, rfl, ?_, ⟨_, rfl⟩, hW, hsame.mono (by decide) (by decide)⟩
  · show Steps p.tables e below (s₁.setTop (mkF m 0 #[.val (.ref a9_0)] [])) _
    refine XS.aloadN X0.here hx rfl (hb hby own_d9_0) rfl rfl ?_
    refine stn9_1 _ ?_
    show Steps p.tables e below (Tn9_1.setTop (mkF m 4 #[.val (.ref a9_0)] [(.long w_closed_a9_0)])) _
    jvm_step Xn9_1.here [Xn9_1.here.top, hx, (hb hby own_d9_4), Xn9_1.method', Bd.returns, narrow]
    first | (intro acts; rw [hr _ acts rfl rfl rfl]) | rw [hr _ _ rfl rfl rfl]
    exact Steps.refl _
  · show own_Q9 Z a9_0 w_closed_a9_0 h0 n0 _ Tn9_1.heap _
    rw [en9_1]
    exact ⟨rfl, N0, rfl⟩
theorem own_d10_0 : decode prog_14_method_7_code 0 = .ok (.aload_n 0, 1) := by decide +kernel
theorem own_d10_1 : decode prog_14_method_7_code 1 = .ok (.getfield 29, 3) := by decide +kernel
theorem own_d10_4 : decode prog_14_method_7_code 4 = .ok (.lreturn, 1) := by decide +kernel
theorem own_ef10 (m : MethodId) (a10_0 : Addr) : entryFrame m #[(.ref a10_0)] 1 = mkF m 0 #[.val (.ref a10_0)] [] := by first | (simp [entryFrame, mkF, argsToLocals, Value.category]; done) | rfl
def own_Q10 (Z : State) (a10_0 : Addr) (w_timeouts_a10_0 : Int64) (h0 : Heap) (n0 : Nat) (v : Option Value) (h : Heap) (L : List Loc) : Prop := v = some (.long w_timeouts_a10_0) ∧ Fr n0 L ∧ h = h0
set_option maxRecDepth 65536 in
set_option maxHeartbeats 40000000 in
theorem own_rm10 (l : Launch) (Z : State) (a0 : Array Value) (hw : ∀ d ∈ tables_1, d.before a0 Z = true) (ws : List Jvm.Cond) (a10_0 : Addr) (w_timeouts_a10_0 : Int64) (h0 : Heap) (n0 : Nat) (Z0 : n0 ≤ h0.size) (F_timeouts_a10_0 : Fld Z h0 a10_0 "com/example/ostia/ostia/PoolStatus" "timeouts" "J" (.long w_timeouts_a10_0)) :
    MetFree l (⟨"com/example/ostia/ostia/PoolStatus", "timeouts", "()J"⟩ : MethodName) (head1 (Jvm.Cond.code (⟨"com/example/ostia/ostia/PoolStatus", "timeouts", "()J"⟩ : MethodName) prog_14_method_7_code 1 (some .long) :: ws) ({ frames := 0, cells := 0, slots := 0, locals := 0 } : Room)) (fun a U => a = #[(.ref a10_0)] ∧ Z.Warmed39 U.vm ∧ U.heap = h0) (fun _ _ _ _ _ => True) (fun _ U o U' => ∃ v L, o = .returned v ∧ own_Q10 Z a10_0 w_timeouts_a10_0 h0 n0 v U'.heap L ∧ FrameEnd U o U' L ({ frames := 0, cells := 0, slots := 0, locals := 0 } : Room).cells ({ frames := 0, cells := 0, slots := 0, locals := 0 } : Room).slots) := by
  refine MetFree.of_bodySF (plainFor_of_name own_pn0) hisR ?_
  intro p e s m args below meth c s₁ Bd hml0 hP hK
  obtain ⟨rfl, hZ, hh⟩ := hP
  have hx := Bd.exec
  have hby := Bd.bytes
  have hml : c.maxLocals = 1 := hml0
  have hown : s.vm.findClass "com/example/ostia/ostia/PoolStatus" = some m.cls := findClass_of_methodNamed Bd.named
  have hnm := (name_of_methodNamed Bd.named Bd.method).1
  have X0 : Stand p l e ({ frames := 0, cells := 0, slots := 0, locals := 0 } : Room) s m #[(.ref a10_0)] below meth c s₁ [] 0 0 := Stand.of_body Bd
  have e0 : s₁.heap = h0 := by rw [← hh, Bd.state]; rfl
  have N0 := Fr.nil n0
  have Zr : h0.size ≤ h0.size := Nat.le_refl _
  have pre0 : ∀ t, Steps p.tables e below (s₁.setTop (mkF m 0 #[.val (.ref a10_0)] [])) t → Steps p.tables e below (s₁.setTop (entryFrame m #[(.ref a10_0)] 1)) t := fun t k => castTop (own_ef10 m a10_0) k
  obtain ⟨Tn10_1, Xn10_1, en10_1, stn10_1⟩ := getF X0 hx hZ hown (host := "") (Or.inl (own_W hw 21 rfl)) Via.refl e0 F_timeouts_a10_0 (g := (mkF m 1 #[.val (.ref a10_0)] [(.ref a10_0)])) rfl rfl (hb hby own_d10_1)
  obtain ⟨fs, hr, hrun, hended, hW, hsame⟩ := Xn10_1.leave (v := some (.long w_timeouts_a10_0)) (fun h => by rw [Bd.returns] at h; cases h)
  refine ⟨_, _, pre0 _ (?_), hrun, hended, _, _, rfl, ?_, ⟨_, rfl⟩, hW, hsame.mono (by decide) (by decide)⟩
  · show Steps p.tables e below (s₁.setTop (mkF m 0 #[.val (.ref a10_0)] [])) _
    refine XS.aloadN X0.here hx rfl (hb hby own_d10_0) rfl rfl ?_
    refine stn10_1 _ ?_
    show Steps p.tables e below (Tn10_1.setTop (mkF m 4 #[.val (.ref a10_0)] [(.long w_timeouts_a10_0)])) _
    jvm_step Xn10_1.here [Xn10_1.here.top, hx, (hb hby own_d10_4), Xn10_1.method', Bd.returns, narrow]
    first | (intro acts; rw [hr _ acts rfl rfl rfl]) | rw [hr _ _ rfl rfl rfl]
    exact Steps.refl _
  · show own_Q10 Z a10_0 w_timeouts_a10_0 h0 n0 _ Tn10_1.heap _
    rw [en10_1]
    exact ⟨rfl, N0, rfl⟩
theorem own_pn1 : plainName "java/util/concurrent/TimeUnit" = true := by first | (simp [plainName, overriddenIn]; done) | decide +kernel
theorem own_d12_0 : decode jdk_2799_method_9_code 0 = .ok (.aload_n 0, 1) := by decide +kernel
theorem own_d12_1 : decode jdk_2799_method_9_code 1 = .ok (.getfield 44, 3) := by decide +kernel
theorem own_d12_4 : decode jdk_2799_method_9_code 4 = .ok (.dup2, 1) := by decide +kernel
theorem own_d12_5 : decode jdk_2799_method_9_code 5 = .ok (.lstore_n 3, 1) := by decide +kernel
theorem own_d12_6 : decode jdk_2799_method_9_code 6 = .ok (.ldc2_w 63, 3) := by decide +kernel
theorem own_d12_9 : decode jdk_2799_method_9_code 9 = .ok (.lcmp, 1) := by decide +kernel
theorem own_d12_10 : decode jdk_2799_method_9_code 10 = .ok (.ifCond .gt 23, 3) := by decide +kernel
theorem own_d12_13 : decode jdk_2799_method_9_code 13 = .ok (.lload_n 3, 1) := by decide +kernel
theorem own_d12_14 : decode jdk_2799_method_9_code 14 = .ok (.ldc2_w 63, 3) := by decide +kernel
theorem own_d12_17 : decode jdk_2799_method_9_code 17 = .ok (.lcmp, 1) := by decide +kernel
theorem own_d12_18 : decode jdk_2799_method_9_code 18 = .ok (.ifCond .ne 7, 3) := by decide +kernel
theorem own_d12_25 : decode jdk_2799_method_9_code 25 = .ok (.lload_n 1, 1) := by decide +kernel
theorem own_d12_26 : decode jdk_2799_method_9_code 26 = .ok (.aload_n 0, 1) := by decide +kernel
theorem own_d12_27 : decode jdk_2799_method_9_code 27 = .ok (.getfield 65, 3) := by decide +kernel
theorem own_d12_30 : decode jdk_2799_method_9_code 30 = .ok (.i2l, 1) := by decide +kernel
theorem own_d12_31 : decode jdk_2799_method_9_code 31 = .ok (.ldiv, 1) := by decide +kernel
theorem own_d12_32 : decode jdk_2799_method_9_code 32 = .ok (.lreturn, 1) := by decide +kernel
def own_r12_0 (q12_1 : Int64) (w_milliRatio_a12_0 : Int32) : Int64 := (q12_1 / w_milliRatio_a12_0.toInt64)
theorem own_ef12 (m : MethodId) (a12_0 : Addr) (q12_1 : Int64) : entryFrame m #[(.ref a12_0), (.long q12_1)] 7 = mkF m 0 #[.val (.ref a12_0), .val (.long q12_1), .second, .unset, .unset, .unset, .unset] [] := by first | (simp [entryFrame, mkF, argsToLocals, Value.category]; done) | rfl
def own_Q12 (Z : State) (a12_0 : Addr) (q12_1 : Int64) (w_scale_a12_0 : Int64) (w_milliRatio_a12_0 : Int32) (h0 : Heap) (n0 : Nat) (v : Option Value) (h : Heap) (L : List Loc) : Prop := v = some (.long (own_r12_0 q12_1 w_milliRatio_a12_0)) ∧ Fr n0 L ∧ h = h0
set_option maxRecDepth 65536 in
set_option maxHeartbeats 40000000 in
theorem own_rm12 (l : Launch) (Z : State) (a0 : Array Value) (hw : ∀ d ∈ tables_1, d.before a0 Z = true) (ws : List Jvm.Cond) (a12_0 : Addr) (q12_1 : Int64) (w_scale_a12_0 : Int64) (w_milliRatio_a12_0 : Int32) (h0 : Heap) (n0 : Nat) (Z0 : n0 ≤ h0.size) (F_scale_a12_0 : Fld Z h0 a12_0 "java/util/concurrent/TimeUnit" "scale" "J" (.long w_scale_a12_0)) (F_milliRatio_a12_0 : Fld Z h0 a12_0 "java/util/concurrent/TimeUnit" "milliRatio" "I" (.int w_milliRatio_a12_0)) (hc10 : ¬ ((1000000 : Int64) < w_scale_a12_0)) (hc18 : ¬ (w_scale_a12_0 = (1000000 : Int64))) (hz31 : w_milliRatio_a12_0.toInt64 ≠ 0) :
    MetFree l (⟨"java/util/concurrent/TimeUnit", "toMillis", "(J)J"⟩ : MethodName) (head1 (Jvm.Cond.code (⟨"java/util/concurrent/TimeUnit", "toMillis", "(J)J"⟩ : MethodName) jdk_2799_method_9_code 7 (some .long) :: ws) ({ frames := 0, cells := 0, slots := 0, locals := 0 } : Room)) (fun a U => a = #[(.ref a12_0), (.long q12_1)] ∧ Z.Warmed39 U.vm ∧ U.heap = h0) (fun _ _ _ _ _ => True) (fun _ U o U' => ∃ v L, o = .returned v ∧ own_Q12 Z a12_0 q12_1 w_scale_a12_0 w_milliRatio_a12_0 h0 n0 v U'.heap L ∧ FrameEnd U o U' L ({ frames := 0, cells := 0, slots := 0, locals := 0 } : Room).cells ({ frames := 0, cells := 0, slots := 0, locals := 0 } : Room).slots) := by
  refine MetFree.of_bodySF (plainFor_of_name own_pn1) hisR ?_
  intro p e s m args below meth c s₁ Bd hml0 hP hK
  obtain ⟨rfl, hZ, hh⟩ := hP
  have hx := Bd.exec
  have hby := Bd.bytes
  have hml : c.maxLocals = 7 := hml0
  have hown : s.vm.findClass "java/util/concurrent/TimeUnit" = some m.cls := findClass_of_methodNamed Bd.named
  have hnm := (name_of_methodNamed Bd.named Bd.method).1
  have X0 : Stand p l e ({ frames := 0, cells := 0, slots := 0, locals := 0 } : Room) s m #[(.ref a12_0), (.long q12_1)] below meth c s₁ [] 0 0 := Stand.of_body Bd
  have e0 : s₁.heap = h0 := by rw [← hh, Bd.state]; rfl
  have N0 := Fr.nil n0
  have Zr : h0.size ≤ h0.size := Nat.le_refl _
  have pre0 : ∀ t, Steps p.tables e below (s₁.setTop (mkF m 0 #[.val (.ref a12_0), .val (.long q12_1), .second, .unset, .unset, .unset, .unset] [])) t → Steps p.tables e below (s₁.setTop (entryFrame m #[(.ref a12_0), (.long q12_1)] 7)) t := fun t k => castTop (own_ef12 m a12_0 q12_1) k
  obtain ⟨Tn12_1, Xn12_1, en12_1, stn12_1⟩ := getF X0 hx hZ hown (host := "") (Or.inl (own_W hw 81 rfl)) Via.refl e0 F_scale_a12_0 (g := (mkF m 1 #[.val (.ref a12_0), .val (.long q12_1), .second, .unset, .unset, .unset, .unset] [(.ref a12_0)])) rfl rfl (hb hby own_d12_1)
  obtain ⟨Tn12_2, Xn12_2, en12_2, stn12_2⟩ := getF Xn12_1 hx hZ hown (host := "") (Or.inl (own_W hw 84 rfl)) Via.refl en12_1 F_milliRatio_a12_0 (g := (mkF m 27 #[.val (.ref a12_0), .val (.long q12_1), .second, .val (.long w_scale_a12_0), .second, .unset, .unset] [(.ref a12_0), (.long q12_1)])) rfl rfl (hb hby own_d12_27)
  obtain ⟨fs, hr, hrun, hended, hW, hsame⟩ := Xn12_2.leave (v := some (.long (q12_1 / w_milliRatio_a12_0.toInt64))) (fun h => by rw [Bd.returns] at h; cases h)
  refine ⟨_, _, pre0 _ (?_), hrun, hended, _, _, rfl, ?_, ⟨_, rfl⟩, hW, hsame.mono (by decide) (by decide)⟩
  · show Steps p.tables e below (s₁.setTop (mkF m 0 #[.val (.ref a12_0), .val (.long q12_1), .second, .unset, .unset, .unset, .unset] [])) _
    refine XS.aloadN X0.here hx rfl (hb hby own_d12_0) rfl rfl ?_
    refine stn12_1 _ ?_
    show Steps p.tables e below (Tn12_1.setTop (mkF m 4 #[.val (.ref a12_0), .val (.long q12_1), .second, .unset, .unset, .unset, .unset] [(.long w_scale_a12_0)])) _
    jvm_step Xn12_1.here [Xn12_1.here.top, hx, (hb hby own_d12_4), Value.category]
    show Steps p.tables e below (Tn12_1.setTop (mkF m 5 #[.val (.ref a12_0), .val (.long q12_1), .second, .unset, .unset, .unset, .unset] [(.long w_scale_a12_0), (.long w_scale_a12_0)])) _
    refine XT.lstoreN Xn12_1.here hx rfl (hb hby own_d12_5) rfl (l' := #[.val (.ref a12_0), .val (.long q12_1), .second, .val (.long w_scale_a12_0), .second, .unset, .unset]) rfl ?_
    refine Xn12_1.ldc2Long hx hown (mvT hZ (own_W hw 83 rfl)) (g := (mkF m 6 #[.val (.ref a12_0), .val (.long q12_1), .second, .val (.long w_scale_a12_0), .second, .unset, .unset] [(.long w_scale_a12_0)])) rfl (hb hby own_d12_6) _ ?_
    show Steps p.tables e below (Tn12_1.setTop (mkF m 9 #[.val (.ref a12_0), .val (.long q12_1), .second, .val (.long w_scale_a12_0), .second, .unset, .unset] [(.long (1000000 : Int64)), (.long w_scale_a12_0)])) _
    refine XT.lcmp Xn12_1.here hx rfl (hb hby own_d12_9) rfl ?_
    show Steps p.tables e below (Tn12_1.setTop (mkF m 10 #[.val (.ref a12_0), .val (.long q12_1), .second, .val (.long w_scale_a12_0), .second, .unset, .unset] [(.int (XT.cmpL w_scale_a12_0 (1000000 : Int64)))])) _
    refine XS.ifNo Xn12_1.here hx rfl (hb hby own_d12_10) rfl (XT.ll_gt_f hc10) ?_
    refine XT.lloadN Xn12_1.here hx rfl (hb hby own_d12_13) rfl ?_
    refine Xn12_1.ldc2Long hx hown (mvT hZ (own_W hw 83 rfl)) (g := (mkF m 14 #[.val (.ref a12_0), .val (.long q12_1), .second, .val (.long w_scale_a12_0), .second, .unset, .unset] [(.long w_scale_a12_0)])) rfl (hb hby own_d12_14) _ ?_
    show Steps p.tables e below (Tn12_1.setTop (mkF m 17 #[.val (.ref a12_0), .val (.long q12_1), .second, .val (.long w_scale_a12_0), .second, .unset, .unset] [(.long (1000000 : Int64)), (.long w_scale_a12_0)])) _
    refine XT.lcmp Xn12_1.here hx rfl (hb hby own_d12_17) rfl ?_
    show Steps p.tables e below (Tn12_1.setTop (mkF m 18 #[.val (.ref a12_0), .val (.long q12_1), .second, .val (.long w_scale_a12_0), .second, .unset, .unset] [(.int (XT.cmpL w_scale_a12_0 (1000000 : Int64)))])) _
    refine XS.ifYes Xn12_1.here hx rfl (pc0 := 18) (pc' := 25) rfl (hb hby own_d12_18) rfl (XT.ll_ne_t hc18) (by decide) (by decide) ?_
    refine XT.lloadN Xn12_1.here hx rfl (hb hby own_d12_25) rfl ?_
    refine XS.aloadN Xn12_1.here hx rfl (hb hby own_d12_26) rfl rfl ?_
    refine stn12_2 _ ?_
    show Steps p.tables e below (Tn12_2.setTop (mkF m 30 #[.val (.ref a12_0), .val (.long q12_1), .second, .val (.long w_scale_a12_0), .second, .unset, .unset] [(.int w_milliRatio_a12_0), (.long q12_1)])) _
    refine XT.i2l Xn12_2.here hx rfl (hb hby own_d12_30) rfl ?_
    refine XT.ldiv Xn12_2.here hx rfl (hb hby own_d12_31) rfl hz31 ?_
    show Steps p.tables e below (Tn12_2.setTop (mkF m 32 #[.val (.ref a12_0), .val (.long q12_1), .second, .val (.long w_scale_a12_0), .second, .unset, .unset] [(.long (q12_1 / w_milliRatio_a12_0.toInt64))])) _
    jvm_step Xn12_2.here [Xn12_2.here.top, hx, (hb hby own_d12_32), Xn12_2.method', Bd.returns, narrow]
    first | (intro acts; rw [hr _ acts rfl rfl rfl]) | rw [hr _ _ rfl rfl rfl]
    exact Steps.refl _
  · show own_Q12 Z a12_0 q12_1 w_scale_a12_0 w_milliRatio_a12_0 h0 n0 _ Tn12_2.heap _
    rw [en12_2]
    exact ⟨rfl, N0, rfl⟩
theorem own_pd2 : parseMethodDescriptor "(J)J" = some ⟨[.long], some .long⟩ := by decide +kernel
theorem own_d11_0 : decode prog_14_method_8_code 0 = .ok (.getstatic 38, 3) := by decide +kernel
theorem own_d11_3 : decode prog_14_method_8_code 3 = .ok (.aload_n 0, 1) := by decide +kernel
theorem own_d11_4 : decode prog_14_method_8_code 4 = .ok (.getfield 35, 3) := by decide +kernel
theorem own_d11_7 : decode prog_14_method_8_code 7 = .ok (.invokevirtual 44, 3) := by decide +kernel
theorem own_d11_10 : decode prog_14_method_8_code 10 = .ok (.lreturn, 1) := by decide +kernel
def own_r11_0 (w_longestWaitNanos_a11_0 : Int64) : Int64 := (own_r12_0 w_longestWaitNanos_a11_0 (1000000 : Int32))
theorem own_ef11 (m : MethodId) (a11_0 : Addr) : entryFrame m #[(.ref a11_0)] 1 = mkF m 0 #[.val (.ref a11_0)] [] := by first | (simp [entryFrame, mkF, argsToLocals, Value.category]; done) | rfl
def own_Q11 (Z : State) (a11_0 : Addr) (u_NANOSECONDS : Addr) (w_longestWaitNanos_a11_0 : Int64) (h0 : Heap) (n0 : Nat) (v : Option Value) (h : Heap) (L : List Loc) : Prop := v = some (.long (own_r11_0 w_longestWaitNanos_a11_0)) ∧ Fr n0 L ∧ h = h0
set_option maxRecDepth 65536 in
set_option maxHeartbeats 40000000 in
theorem own_rm11 (l : Launch) (Z : State) (a0 : Array Value) (hw : ∀ d ∈ tables_1, d.before a0 Z = true) (ws : List Jvm.Cond) (a11_0 : Addr) (u_NANOSECONDS : Addr) (w_longestWaitNanos_a11_0 : Int64) (h0 : Heap) (n0 : Nat) (Z0 : n0 ≤ h0.size) (O_h : Old Z n0 h0) (F_longestWaitNanos_a11_0 : Fld Z h0 a11_0 "com/example/ostia/ostia/PoolStatus" "longestWaitNanos" "J" (.long w_longestWaitNanos_a11_0)) (sta_NANOSECONDS : Sta Z Z.heap "java/util/concurrent/TimeUnit" "NANOSECONDS" "Ljava/util/concurrent/TimeUnit;" (.ref u_NANOSECONDS)) (exa_NANOSECONDS : Exa Z Z.heap u_NANOSECONDS "java/util/concurrent/TimeUnit") (fld_NANOSECONDS_scale : Fld Z Z.heap u_NANOSECONDS "java/util/concurrent/TimeUnit" "scale" "J" (.long (1 : Int64))) (fld_NANOSECONDS_milliRatio : Fld Z Z.heap u_NANOSECONDS "java/util/concurrent/TimeUnit" "milliRatio" "I" (.int (1000000 : Int32))) (c7_hc10 : ¬ ((1000000 : Int64) < (1 : Int64))) (c7_hc18 : ¬ ((1 : Int64) = (1000000 : Int64))) (c7_hz31 : (1000000 : Int32).toInt64 ≠ 0) :
    MetFree l (⟨"com/example/ostia/ostia/PoolStatus", "longestWaitMillis", "()J"⟩ : MethodName) (head1 (Jvm.Cond.code (⟨"com/example/ostia/ostia/PoolStatus", "longestWaitMillis", "()J"⟩ : MethodName) prog_14_method_8_code 1 (some .long) :: ws) ({ frames := 1, cells := 0, slots := 0, locals := 18 } : Room)) (fun a U => a = #[(.ref a11_0)] ∧ Z.Warmed39 U.vm ∧ U.heap = h0) (fun _ _ _ _ _ => True) (fun _ U o U' => ∃ v L, o = .returned v ∧ own_Q11 Z a11_0 u_NANOSECONDS w_longestWaitNanos_a11_0 h0 n0 v U'.heap L ∧ FrameEnd U o U' L ({ frames := 1, cells := 0, slots := 0, locals := 18 } : Room).cells ({ frames := 1, cells := 0, slots := 0, locals := 18 } : Room).slots) := by
  refine MetFree.of_bodySF (plainFor_of_name own_pn0) hisR ?_
  intro p e s m args below meth c s₁ Bd hml0 hP hK
  obtain ⟨rfl, hZ, hh⟩ := hP
  have hx := Bd.exec
  have hby := Bd.bytes
  have hml : c.maxLocals = 1 := hml0
  have hown : s.vm.findClass "com/example/ostia/ostia/PoolStatus" = some m.cls := findClass_of_methodNamed Bd.named
  have hnm := (name_of_methodNamed Bd.named Bd.method).1
  have X0 : Stand p l e ({ frames := 1, cells := 0, slots := 0, locals := 18 } : Room) s m #[(.ref a11_0)] below meth c s₁ [] 0 0 := Stand.of_body Bd
  have e0 : s₁.heap = h0 := by rw [← hh, Bd.state]; rfl
  have N0 := Fr.nil n0
  have Zr : h0.size ≤ h0.size := Nat.le_refl _
  have pre0 : ∀ t, Steps p.tables e below (s₁.setTop (mkF m 0 #[.val (.ref a11_0)] [])) t → Steps p.tables e below (s₁.setTop (entryFrame m #[(.ref a11_0)] 1)) t := fun t k => castTop (own_ef11 m a11_0) k
  obtain ⟨Tn11_1, Xn11_1, en11_1, stn11_1⟩ := getS (host := "") X0 hx hZ hown (own_W hw 74 rfl) Via.refl e0 (sta_NANOSECONDS.ext O_h.2) (g := (mkF m 0 #[.val (.ref a11_0)] [])) rfl (hb hby own_d11_0)
  have F11_2 := (exa_NANOSECONDS.ext O_h.2)
  have F11_3 := (fld_NANOSECONDS_scale.ext O_h.2)
  have F11_4 := (fld_NANOSECONDS_milliRatio.ext O_h.2)
  obtain ⟨Tn11_5, Xn11_5, en11_5, stn11_5⟩ := getF Xn11_1 hx hZ hown (host := "") (Or.inl (own_W hw 25 rfl)) Via.refl en11_1 F_longestWaitNanos_a11_0 (g := (mkF m 4 #[.val (.ref a11_0)] [(.ref a11_0), (.ref u_NANOSECONDS)])) rfl rfl (hb hby own_d11_4)
  obtain ⟨cqk11_6, kqk11_6, qk11_6a, qk11_6b, qk11_6c⟩ := isOf hZ en11_5 F11_2
  obtain ⟨_, _, ⟨Tk11_6, Lk11_6, kk11_6, nk11_6⟩, -, Xk11_6, ⟨Lck11_6, hQk11_6, lk11_6, yk11_6, zk11_6⟩, stk11_6⟩ := Xn11_5.virtualBack hx (y := (⟨"java/util/concurrent/TimeUnit", "toMillis", "(J)J"⟩ : MethodName)) (z := (⟨"java/util/concurrent/TimeUnit", "toMillis", "(J)J"⟩ : MethodName)) hown (mvT hZ (own_W hw 76 rfl)) (mvT hZ (own_W hw 77 rfl)) (notFace_of_selects (args := #[]) (mvT hZ (own_W hw 79 rfl))) (mvT hZ (own_W hw 79 rfl)) (mvT hZ (own_W hw 78 rfl)) (by decide) (backOf (W := 0) (own_rm12 l Z a0 hw [] u_NANOSECONDS w_longestWaitNanos_a11_0 (1 : Int64) (1000000 : Int32) h0 n0 Z0 F11_3 F11_4 c7_hc10 c7_hc18 c7_hz31) hZ (own_W hw 80 rfl) (own_W hw 75 rfl) (by decide) (by decide)) qk11_6a qk11_6c (g := (mkF m 7 #[.val (.ref a11_0)] [(.long w_longestWaitNanos_a11_0), (.ref u_NANOSECONDS)])) rfl (by rw [hml]; rfl) (Steps.refl _) (argsL := [(.long w_longestWaitNanos_a11_0)]) (rest := []) (lenOf own_pd2 rfl) rfl (by show 2 * 0 + _ ≤ _; exact Nat.le_of_eq rfl) (hb hby own_d11_7) (fun _ _ => ⟨rfl, en11_5, (by decide : 0 + 0 ≤ _), (by decide : 0 + 0 ≤ _)⟩)
  dsimp only [Pt.U, Pt.locs, Pt.cells, Pt.slots] at Xk11_6 lk11_6 yk11_6 zk11_6 stk11_6 hQk11_6
  replace lk11_6 := lk11_6.symm; replace yk11_6 := yk11_6.symm; replace zk11_6 := zk11_6.symm; subst lk11_6 yk11_6 zk11_6
  obtain ⟨rfl, Nk11_6q, ek11_6⟩ := hQk11_6
  have Nk11_6 := Fr.app N0 Nk11_6q
  obtain ⟨fs, hr, hrun, hended, hW, hsame⟩ := Xk11_6.leave (v := some (.long (own_r12_0 w_longestWaitNanos_a11_0 (1000000 : Int32)))) (fun h => by rw [Bd.returns] at h; cases h)
  refine ⟨_, _, pre0 _ (?_), hrun, hended, _, _, rfl, ?_, ⟨_, rfl⟩, hW, hsame.mono (by decide) (by decide)⟩
  · show Steps p.tables e below (s₁.setTop (mkF m 0 #[.val (.ref a11_0)] [])) _
    refine stn11_1 _ ?_
    show Steps p.tables e below (Tn11_1.setTop (mkF m 3 #[.val (.ref a11_0)] [(.ref u_NANOSECONDS)])) _
    refine XS.aloadN Xn11_1.here hx rfl (hb hby own_d11_3) rfl rfl ?_
    refine stn11_5 _ ?_
    show Steps p.tables e below (Tn11_5.setTop (mkF m 7 #[.val (.ref a11_0)] [(.long w_longestWaitNanos_a11_0), (.ref u_NANOSECONDS)])) _
    refine stk11_6.trans ?_
    show Steps p.tables e below (Tk11_6.setTop (mkF m 10 #[.val (.ref a11_0)] [(.long (own_r12_0 w_longestWaitNanos_a11_0 (1000000 : Int32)))])) _
    jvm_step Xk11_6.here [Xk11_6.here.top, hx, (hb hby own_d11_10), Xk11_6.method', Bd.returns, narrow]
    first | (intro acts; rw [hr _ acts rfl rfl rfl]) | rw [hr _ _ rfl rfl rfl]
    exact Steps.refl _
  · show own_Q11 Z a11_0 u_NANOSECONDS w_longestWaitNanos_a11_0 h0 n0 _ Tk11_6.heap _
    rw [ek11_6]
    exact ⟨rfl, Nk11_6, rfl⟩
theorem own_d13_0 : decode prog_14_method_9_code 0 = .ok (.dconst 0, 1) := by decide +kernel
theorem own_d13_1 : decode prog_14_method_9_code 1 = .ok (.dstore_n 1, 1) := by decide +kernel
theorem own_d13_2 : decode prog_14_method_9_code 2 = .ok (.aload_n 0, 1) := by decide +kernel
theorem own_d13_3 : decode prog_14_method_9_code 3 = .ok (.getfield 26, 3) := by decide +kernel
theorem own_d13_6 : decode prog_14_method_9_code 6 = .ok (.lconst 0, 1) := by decide +kernel
theorem own_d13_7 : decode prog_14_method_9_code 7 = .ok (.lcmp, 1) := by decide +kernel
theorem own_d13_8 : decode prog_14_method_9_code 8 = .ok (.ifCond .le 19, 3) := by decide +kernel
theorem own_d13_11 : decode prog_14_method_9_code 11 = .ok (.aload_n 0, 1) := by decide +kernel
theorem own_d13_12 : decode prog_14_method_9_code 12 = .ok (.getfield 32, 3) := by decide +kernel
theorem own_d13_15 : decode prog_14_method_9_code 15 = .ok (.l2d, 1) := by decide +kernel
theorem own_d13_16 : decode prog_14_method_9_code 16 = .ok (.ldc2_w 48, 3) := by decide +kernel
theorem own_d13_19 : decode prog_14_method_9_code 19 = .ok (.ddiv, 1) := by decide +kernel
theorem own_d13_20 : decode prog_14_method_9_code 20 = .ok (.aload_n 0, 1) := by decide +kernel
theorem own_d13_21 : decode prog_14_method_9_code 21 = .ok (.getfield 26, 3) := by decide +kernel
theorem own_d13_24 : decode prog_14_method_9_code 24 = .ok (.l2d, 1) := by decide +kernel
theorem own_d13_25 : decode prog_14_method_9_code 25 = .ok (.ddiv, 1) := by decide +kernel
theorem own_d13_26 : decode prog_14_method_9_code 26 = .ok (.dstore_n 1, 1) := by decide +kernel
theorem own_d13_27 : decode prog_14_method_9_code 27 = .ok (.dload_n 1, 1) := by decide +kernel
theorem own_d13_28 : decode prog_14_method_9_code 28 = .ok (.dreturn, 1) := by decide +kernel
def own_v13_0 (w_calls_a13_0 : Int64) (w_totalWaitMicros_a13_0 : Int64) : UInt64 := (FP.ddiv (FP.ddiv (FP.l2d w_totalWaitMicros_a13_0) (4652007308841189376 : UInt64)) (FP.l2d w_calls_a13_0))
def own_j13_1 (w_calls_a13_0 : Int64) (w_totalWaitMicros_a13_0 : Int64) : UInt64 := if (0 : Int64) < w_calls_a13_0 then (own_v13_0 w_calls_a13_0 w_totalWaitMicros_a13_0) else (0 : UInt64)
def own_r13_2 (w_calls_a13_0 : Int64) (w_totalWaitMicros_a13_0 : Int64) : UInt64 := (own_j13_1 w_calls_a13_0 w_totalWaitMicros_a13_0)
theorem own_ef13 (m : MethodId) (a13_0 : Addr) : entryFrame m #[(.ref a13_0)] 3 = mkF m 0 #[.val (.ref a13_0), .unset, .unset] [] := by first | (simp [entryFrame, mkF, argsToLocals, Value.category]; done) | rfl
def own_Q13 (Z : State) (a13_0 : Addr) (w_calls_a13_0 : Int64) (w_totalWaitMicros_a13_0 : Int64) (h0 : Heap) (n0 : Nat) (v : Option Value) (h : Heap) (L : List Loc) : Prop := v = some (.double (own_r13_2 w_calls_a13_0 w_totalWaitMicros_a13_0)) ∧ Fr n0 L ∧ h = h0
set_option maxRecDepth 65536 in
set_option maxHeartbeats 40000000 in
theorem own_rm13 (l : Launch) (Z : State) (a0 : Array Value) (hw : ∀ d ∈ tables_1, d.before a0 Z = true) (ws : List Jvm.Cond) (a13_0 : Addr) (w_calls_a13_0 : Int64) (w_totalWaitMicros_a13_0 : Int64) (h0 : Heap) (n0 : Nat) (Z0 : n0 ≤ h0.size) (F_calls_a13_0 : Fld Z h0 a13_0 "com/example/ostia/ostia/PoolStatus" "calls" "J" (.long w_calls_a13_0)) (F_totalWaitMicros_a13_0 : Fld Z h0 a13_0 "com/example/ostia/ostia/PoolStatus" "totalWaitMicros" "J" (.long w_totalWaitMicros_a13_0)) (nn19 : NoNaN64 (FP.ddiv (FP.l2d w_totalWaitMicros_a13_0) (4652007308841189376 : UInt64))) (nn25 : (0 : Int64) < w_calls_a13_0 → NoNaN64 (FP.ddiv (FP.ddiv (FP.l2d w_totalWaitMicros_a13_0) (4652007308841189376 : UInt64)) (FP.l2d w_calls_a13_0))) :
    MetFree l (⟨"com/example/ostia/ostia/PoolStatus", "averageWaitMillis", "()D"⟩ : MethodName) (head1 (Jvm.Cond.code (⟨"com/example/ostia/ostia/PoolStatus", "averageWaitMillis", "()D"⟩ : MethodName) prog_14_method_9_code 3 (some .double) :: ws) ({ frames := 0, cells := 0, slots := 0, locals := 0 } : Room)) (fun a U => a = #[(.ref a13_0)] ∧ Z.Warmed39 U.vm ∧ U.heap = h0) (fun _ _ _ _ _ => True) (fun _ U o U' => ∃ v L, o = .returned v ∧ own_Q13 Z a13_0 w_calls_a13_0 w_totalWaitMicros_a13_0 h0 n0 v U'.heap L ∧ FrameEnd U o U' L ({ frames := 0, cells := 0, slots := 0, locals := 0 } : Room).cells ({ frames := 0, cells := 0, slots := 0, locals := 0 } : Room).slots) := by
  refine MetFree.of_bodySF (plainFor_of_name own_pn0) hisR ?_
  intro p e s m args below meth c s₁ Bd hml0 hP hK
  obtain ⟨rfl, hZ, hh⟩ := hP
  have hx := Bd.exec
  have hby := Bd.bytes
  have hml : c.maxLocals = 3 := hml0
  have hown : s.vm.findClass "com/example/ostia/ostia/PoolStatus" = some m.cls := findClass_of_methodNamed Bd.named
  have hnm := (name_of_methodNamed Bd.named Bd.method).1
  have X0 : Stand p l e ({ frames := 0, cells := 0, slots := 0, locals := 0 } : Room) s m #[(.ref a13_0)] below meth c s₁ [] 0 0 := Stand.of_body Bd
  have e0 : s₁.heap = h0 := by rw [← hh, Bd.state]; rfl
  have N0 := Fr.nil n0
  have Zr : h0.size ≤ h0.size := Nat.le_refl _
  have pre0 : ∀ t, Steps p.tables e below (s₁.setTop (mkF m 0 #[.val (.ref a13_0), .unset, .unset] [])) t → Steps p.tables e below (s₁.setTop (entryFrame m #[(.ref a13_0)] 3)) t := fun t k => castTop (own_ef13 m a13_0) k
  obtain ⟨Tn13_1, Xn13_1, en13_1, stn13_1⟩ := getF X0 hx hZ hown (host := "") (Or.inl (own_W hw 19 rfl)) Via.refl e0 F_calls_a13_0 (g := (mkF m 3 #[.val (.ref a13_0), .val (.double (0 : UInt64)), .second] [(.ref a13_0)])) rfl rfl (hb hby own_d13_3)
  obtain ⟨Tj13_2, lj13_2, Xj13_2, Nj13_2, ej13_2, stj13_2⟩ : ∃ (T' : State) (l' : List Loc), Stand p l e ({ frames := 0, cells := 0, slots := 0, locals := 0 } : Room) s m #[(.ref a13_0)] below meth c T' l' 0 0 ∧ Fr n0 l' ∧ T'.heap = h0 ∧ ∀ target, Steps p.tables e below (T'.setTop (mkF m 27 #[.val (.ref a13_0), .val (.double (own_j13_1 w_calls_a13_0 w_totalWaitMicros_a13_0)), .second] [])) target → Steps p.tables e below (Tn13_1.setTop (mkF m 8 #[.val (.ref a13_0), .val (.double (0 : UInt64)), .second] [(.int (XT.cmpL w_calls_a13_0 (0 : Int64)))])) target := by
    by_cases hj13_2 : (0 : Int64) < w_calls_a13_0
    · obtain ⟨Tn13_3, Xn13_3, en13_3, stn13_3⟩ := getF Xn13_1 hx hZ hown (host := "") (Or.inl (own_W hw 23 rfl)) Via.refl en13_1 F_totalWaitMicros_a13_0 (g := (mkF m 12 #[.val (.ref a13_0), .val (.double (0 : UInt64)), .second] [(.ref a13_0)])) rfl rfl (hb hby own_d13_12)
      obtain ⟨Tn13_4, Xn13_4, en13_4, stn13_4⟩ := getF Xn13_3 hx hZ hown (host := "") (Or.inl (own_W hw 19 rfl)) Via.refl en13_3 F_calls_a13_0 (g := (mkF m 21 #[.val (.ref a13_0), .val (.double (0 : UInt64)), .second] [(.ref a13_0), (.double (FP.ddiv (FP.l2d w_totalWaitMicros_a13_0) (4652007308841189376 : UInt64)))])) rfl rfl (hb hby own_d13_21)
      refine ⟨_, _, Xn13_4, N0, en13_4, fun target kt => ?_⟩
      rw [(show (own_j13_1 w_calls_a13_0 w_totalWaitMicros_a13_0) = (own_v13_0 w_calls_a13_0 w_totalWaitMicros_a13_0) from if_pos hj13_2)] at kt
      show Steps p.tables e below (Tn13_1.setTop (mkF m 8 #[.val (.ref a13_0), .val (.double (0 : UInt64)), .second] [(.int (XT.cmpL w_calls_a13_0 (0 : Int64)))])) _
      refine XS.ifNo Xn13_1.here hx rfl (hb hby own_d13_8) rfl (XT.ll_le_f hj13_2) ?_
      refine XS.aloadN Xn13_1.here hx rfl (hb hby own_d13_11) rfl rfl ?_
      refine stn13_3 _ ?_
      show Steps p.tables e below (Tn13_3.setTop (mkF m 15 #[.val (.ref a13_0), .val (.double (0 : UInt64)), .second] [(.long w_totalWaitMicros_a13_0)])) _
      refine XS.l2dS Xn13_3.here hx rfl (hb hby own_d13_15) rfl rfl ?_
      refine Xn13_3.ldc2DoubleC hx hown (mvT hZ (own_W hw 93 rfl)) (g := (mkF m 16 #[.val (.ref a13_0), .val (.double (0 : UInt64)), .second] [(.double (FP.l2d w_totalWaitMicros_a13_0))])) rfl (hb hby own_d13_16) _ ?_
      show Steps p.tables e below (Tn13_3.setTop (mkF m 19 #[.val (.ref a13_0), .val (.double (0 : UInt64)), .second] [(.double (4652007308841189376 : UInt64)), (.double (FP.l2d w_totalWaitMicros_a13_0))])) _
      refine XS.ddivS Xn13_3.here hx rfl (hb hby own_d13_19) rfl nn19 rfl ?_
      refine XS.aloadN Xn13_3.here hx rfl (hb hby own_d13_20) rfl rfl ?_
      refine stn13_4 _ ?_
      show Steps p.tables e below (Tn13_4.setTop (mkF m 24 #[.val (.ref a13_0), .val (.double (0 : UInt64)), .second] [(.long w_calls_a13_0), (.double (FP.ddiv (FP.l2d w_totalWaitMicros_a13_0) (4652007308841189376 : UInt64)))])) _
      refine XS.l2dS Xn13_4.here hx rfl (hb hby own_d13_24) rfl rfl ?_
      refine XS.ddivS Xn13_4.here hx rfl (hb hby own_d13_25) rfl (nn25 hj13_2) rfl ?_
      refine XS.dstoreN Xn13_4.here hx rfl (hb hby own_d13_26) rfl (l' := #[.val (.ref a13_0), .val (.double (own_v13_0 w_calls_a13_0 w_totalWaitMicros_a13_0)), .second]) rfl ?_
      exact kt
    · refine ⟨_, _, Xn13_1, N0, en13_1, fun target kt => ?_⟩
      rw [(show (own_j13_1 w_calls_a13_0 w_totalWaitMicros_a13_0) = (0 : UInt64) from if_neg hj13_2)] at kt
      show Steps p.tables e below (Tn13_1.setTop (mkF m 8 #[.val (.ref a13_0), .val (.double (0 : UInt64)), .second] [(.int (XT.cmpL w_calls_a13_0 (0 : Int64)))])) _
      refine XS.ifYes Xn13_1.here hx rfl (pc0 := 8) (pc' := 27) rfl (hb hby own_d13_8) rfl (XT.ll_le_t hj13_2) (by decide) (by decide) ?_
      exact kt
  obtain ⟨fs, hr, hrun, hended, hW, hsame⟩ := Xj13_2.leave (v := some (.double (own_j13_1 w_calls_a13_0 w_totalWaitMicros_a13_0))) (fun h => by rw [Bd.returns] at h; cases h)
  refine ⟨_, _, pre0 _ (?_), hrun, hended, _, _, rfl, ?_, ⟨_, rfl⟩, hW, hsame.mono (by decide) (by decide)⟩
  · show Steps p.tables e below (s₁.setTop (mkF m 0 #[.val (.ref a13_0), .unset, .unset] [])) _
    refine XS.dconst0 X0.here hx rfl (hb hby own_d13_0) (v := (0 : UInt64)) (by decide +kernel) ?_
    show Steps p.tables e below (s₁.setTop (mkF m 1 #[.val (.ref a13_0), .unset, .unset] [(.double (0 : UInt64))])) _
    refine XS.dstoreN X0.here hx rfl (hb hby own_d13_1) rfl (l' := #[.val (.ref a13_0), .val (.double (0 : UInt64)), .second]) rfl ?_
    refine XS.aloadN X0.here hx rfl (hb hby own_d13_2) rfl rfl ?_
    refine stn13_1 _ ?_
    show Steps p.tables e below (Tn13_1.setTop (mkF m 6 #[.val (.ref a13_0), .val (.double (0 : UInt64)), .second] [(.long w_calls_a13_0)])) _
    refine XT.lconst Xn13_1.here hx rfl (hb hby own_d13_6) ?_
    refine XT.lcmp Xn13_1.here hx rfl (hb hby own_d13_7) rfl ?_
    show Steps p.tables e below (Tn13_1.setTop (mkF m 8 #[.val (.ref a13_0), .val (.double (0 : UInt64)), .second] [(.int (XT.cmpL w_calls_a13_0 (0 : Int64)))])) _
    refine stj13_2 _ ?_
    show Steps p.tables e below (Tj13_2.setTop (mkF m 27 #[.val (.ref a13_0), .val (.double (own_j13_1 w_calls_a13_0 w_totalWaitMicros_a13_0)), .second] [])) _
    refine XS.dloadN Xj13_2.here hx rfl (hb hby own_d13_27) rfl ?_
    show Steps p.tables e below (Tj13_2.setTop (mkF m 28 #[.val (.ref a13_0), .val (.double (own_j13_1 w_calls_a13_0 w_totalWaitMicros_a13_0)), .second] [(.double (own_j13_1 w_calls_a13_0 w_totalWaitMicros_a13_0))])) _
    exact own_retD Xj13_2 hx Bd.returns (hb hby own_d13_28) hr
  · show own_Q13 Z a13_0 w_calls_a13_0 w_totalWaitMicros_a13_0 h0 n0 _ Tj13_2.heap _
    rw [ej13_2]
    exact ⟨rfl, Nj13_2, rfl⟩
theorem own_pn2 : plainName "com/example/ostia/ostia/PoolStatusPlusPinLaw" = true := by first | (simp [plainName, overriddenIn]; done) | decide +kernel
theorem own_pd3 : parseMethodDescriptor "(Lcom/example/ostia/ostia/PoolStatus;)Lcom/example/ostia/ostia/PoolStatus;" = some ⟨[(.object "com/example/ostia/ostia/PoolStatus")], some (.object "com/example/ostia/ostia/PoolStatus")⟩ := by decide +kernel
theorem own_pd4 : parseMethodDescriptor "()I" = some ⟨[], some .int⟩ := by decide +kernel
theorem own_pd5 : parseMethodDescriptor "()J" = some ⟨[], some .long⟩ := by decide +kernel
theorem own_pd6 : parseMethodDescriptor "()D" = some ⟨[], some .double⟩ := by decide +kernel
def own_v0_0 (q0_2 : Int64) (q0_3 : Int64) (q0_4 : Int64) (q0_5 : Int64) : Int64 := ((q0_2 ^^^ q0_3) + (q0_4 - q0_5))
def own_v0_1 (q0_2 : Int64) (q0_3 : Int64) (q0_4 : Int64) (q0_5 : Int64) : UInt64 := (FP.ddiv (FP.ddiv (FP.l2d (own_v0_0 q0_2 q0_3 q0_4 q0_5)) (4652007308841189376 : UInt64)) (FP.l2d (q0_4 + q0_5)))
def own_j0_2 (q0_2 : Int64) (q0_3 : Int64) (q0_4 : Int64) (q0_5 : Int64) : UInt64 := if (0 : Int64) < (q0_4 + q0_5) then (own_v0_1 q0_2 q0_3 q0_4 q0_5) else (0 : UInt64)
theorem own_ef0 (m : MethodId) (p0_0 : Int32) (p0_1 : Int32) (q0_2 : Int64) (q0_3 : Int64) (q0_4 : Int64) (q0_5 : Int64) : entryFrame m #[(.int p0_0), (.int p0_1), (.long q0_2), (.long q0_3), (.long q0_4), (.long q0_5)] maxLocals = mkF m 0 #[.val (.int p0_0), .val (.int p0_1), .val (.long q0_2), .second, .val (.long q0_3), .second, .val (.long q0_4), .second, .val (.long q0_5), .second, .unset, .unset, .unset, .unset, .unset, .unset, .unset, .unset, .unset, .unset, .unset, .unset, .unset, .unset, .unset, .unset, .unset, .unset, .unset] [] := by first | (simp [entryFrame, mkF, argsToLocals, Value.category, maxLocals]; done) | rfl
def own_Q0 (Z : State) (p0_0 : Int32) (p0_1 : Int32) (q0_2 : Int64) (q0_3 : Int64) (q0_4 : Int64) (q0_5 : Int64) (u_NANOSECONDS : Addr) (h0 : Heap) (n0 : Nat) (v : Option Value) (h : Heap) (L : List Loc) : Prop := v = some (.int (1 : Int32)) ∧ Fr n0 L
set_option maxRecDepth 65536 in
set_option maxHeartbeats 40000000 in
theorem own_rm0 (l : Launch) (Z : State) (a0 : Array Value) (hw : ∀ d ∈ tables_1, d.before a0 Z = true) (ws : List Jvm.Cond) (p0_0 : Int32) (p0_1 : Int32) (q0_2 : Int64) (q0_3 : Int64) (q0_4 : Int64) (q0_5 : Int64) (u_NANOSECONDS : Addr) (h0 : Heap) (n0 : Nat) (Z0 : n0 ≤ h0.size) (O_h : Old Z n0 h0) (nn127 : NoNaN64 (FP.ddiv (FP.l2d (own_v0_0 q0_2 q0_3 q0_4 q0_5)) (4652007308841189376 : UInt64))) (nn131 : (0 : Int64) < (q0_4 + q0_5) → NoNaN64 (FP.ddiv (FP.ddiv (FP.l2d (own_v0_0 q0_2 q0_3 q0_4 q0_5)) (4652007308841189376 : UInt64)) (FP.l2d (q0_4 + q0_5)))) (c213_sta_NANOSECONDS : Sta Z Z.heap "java/util/concurrent/TimeUnit" "NANOSECONDS" "Ljava/util/concurrent/TimeUnit;" (.ref u_NANOSECONDS)) (c213_exa_NANOSECONDS : Exa Z Z.heap u_NANOSECONDS "java/util/concurrent/TimeUnit") (c213_fld_NANOSECONDS_scale : Fld Z Z.heap u_NANOSECONDS "java/util/concurrent/TimeUnit" "scale" "J" (.long (1 : Int64))) (c213_fld_NANOSECONDS_milliRatio : Fld Z Z.heap u_NANOSECONDS "java/util/concurrent/TimeUnit" "milliRatio" "I" (.int (1000000 : Int32))) (c213_c7_hc10 : ¬ ((1000000 : Int64) < (1 : Int64))) (c213_c7_hc18 : ¬ ((1 : Int64) = (1000000 : Int64))) (c213_c7_hz31 : (1000000 : Int32).toInt64 ≠ 0) (hc228 : (own_r11_0 (own_j4_0 (q0_4 ^^^ q0_5) (q0_2 - q0_3))) = ((own_j4_0 (q0_4 ^^^ q0_5) (q0_2 - q0_3)) / (1000000 : Int64))) (c233_nn19 : NoNaN64 (FP.ddiv (FP.l2d ((q0_2 ^^^ q0_3) + (q0_4 - q0_5))) (4652007308841189376 : UInt64))) (c233_nn25 : (0 : Int64) < (q0_4 + q0_5) → NoNaN64 (FP.ddiv (FP.ddiv (FP.l2d ((q0_2 ^^^ q0_3) + (q0_4 - q0_5))) (4652007308841189376 : UInt64)) (FP.l2d (q0_4 + q0_5)))) (hc239 : (cmpValue (FP.dcmp (own_r13_2 (q0_4 + q0_5) ((q0_2 ^^^ q0_3) + (q0_4 - q0_5))) (own_j0_2 q0_2 q0_3 q0_4 q0_5)) .l) = (0 : Int32)) :
    MetFree l x (head1 (Jvm.Cond.code x code maxLocals ret :: ws) room_1) (fun a U => a = #[(.int p0_0), (.int p0_1), (.long q0_2), (.long q0_3), (.long q0_4), (.long q0_5)] ∧ Z.Warmed39 U.vm ∧ U.heap = h0) (fun _ _ _ _ _ => True) (fun _ U o U' => ∃ v L, o = .returned v ∧ own_Q0 Z p0_0 p0_1 q0_2 q0_3 q0_4 q0_5 u_NANOSECONDS h0 n0 v U'.heap L ∧ FrameEnd U o U' L room_1.cells room_1.slots) := by
  refine MetFree.of_bodySF (plainFor_of_name own_pn2) hisR ?_
  intro p e s m args below meth c s₁ Bd hml0 hP hK
  obtain ⟨rfl, hZ, hh⟩ := hP
  have hx := Bd.exec
  have hby := Bd.bytes
  have hml : c.maxLocals = 29 := hml0
  have hown : s.vm.findClass "com/example/ostia/ostia/PoolStatusPlusPinLaw" = some m.cls := findClass_of_methodNamed Bd.named
  have hnm := (name_of_methodNamed Bd.named Bd.method).1
  have X0 : Stand p l e room_1 s m #[(.int p0_0), (.int p0_1), (.long q0_2), (.long q0_3), (.long q0_4), (.long q0_5)] below meth c s₁ [] 0 0 := Stand.of_body Bd
  have e0 : s₁.heap = h0 := by rw [← hh, Bd.state]; rfl
  have N0 := Fr.nil n0
  have Zr : h0.size ≤ h0.size := Nat.le_refl _
  have pre0 : ∀ t, Steps p.tables e below (s₁.setTop (mkF m 0 #[.val (.int p0_0), .val (.int p0_1), .val (.long q0_2), .second, .val (.long q0_3), .second, .val (.long q0_4), .second, .val (.long q0_5), .second, .unset, .unset, .unset, .unset, .unset, .unset, .unset, .unset, .unset, .unset, .unset, .unset, .unset, .unset, .unset, .unset, .unset, .unset, .unset] [])) t → Steps p.tables e below (s₁.setTop (entryFrame m #[(.int p0_0), (.int p0_1), (.long q0_2), (.long q0_3), (.long q0_4), (.long q0_5)] maxLocals)) t := fun t k => castTop (own_ef0 m p0_0 p0_1 q0_2 q0_3 q0_4 q0_5) k
  obtain ⟨Tn0_1, hn0_1, Xn0_1, en0_1, En0_1, An0_1, Dn0_1, -, stn0_1⟩ := newO X0 hx hZ hown (own_W hw 0 rfl) (own_W hw 1 rfl) (own_W hw 2 rfl) e0 (g := (mkF m 38 #[.val (.int p0_0), .val (.int p0_1), .val (.long q0_2), .second, .val (.long q0_3), .second, .val (.long q0_4), .second, .val (.long q0_5), .second, .val (.int (p0_0 ^^^ (23130 : Int32))), .val (.int (p0_0 + p0_1)), .val (.long (q0_4 ^^^ q0_5)), .second, .val (.long (q0_2 - q0_3)), .second, .val (.long (q0_2 ^^^ q0_3)), .second, .val (.long (q0_4 - q0_5)), .second, .unset, .unset, .unset, .unset, .unset, .unset, .unset, .unset, .unset] [])) rfl (hb hby at_38) (by decide) (by decide)
  obtain ⟨bn0_1, gn0_1⟩ : ∃ z, z = h0.size := ⟨_, rfl⟩
  rw [← gn0_1] at An0_1 Dn0_1 stn0_1
  have g_bn0_1 : n0 ≤ bn0_1 := Nat.le_trans Z0 (Nat.le_of_eq gn0_1.symm)
  have sz_bn0_1 : h0.size ≤ bn0_1 := Nat.le_trans Zr (Nat.le_of_eq gn0_1.symm)
  have sz0_2 : h0.size ≤ hn0_1.size := Nat.le_trans Zr En0_1.1
  have F_inUse_bn0_1 : Fld Z hn0_1 bn0_1 "com/example/ostia/ostia/PoolStatus" "inUse" "I" (.int (0 : Int32)) := Dn0_1 (Or.inr (own_W hw 10 rfl)) (ty := .int) (by decide)
  have F_idle_bn0_1 : Fld Z hn0_1 bn0_1 "com/example/ostia/ostia/PoolStatus" "idle" "I" (.int (0 : Int32)) := Dn0_1 (Or.inr (own_W hw 12 rfl)) (ty := .int) (by decide)
  have F_waiting_bn0_1 : Fld Z hn0_1 bn0_1 "com/example/ostia/ostia/PoolStatus" "waiting" "I" (.int (0 : Int32)) := Dn0_1 (Or.inr (own_W hw 14 rfl)) (ty := .int) (by decide)
  have F_opened_bn0_1 : Fld Z hn0_1 bn0_1 "com/example/ostia/ostia/PoolStatus" "opened" "J" (.long (0 : Int64)) := Dn0_1 (Or.inr (own_W hw 16 rfl)) (ty := .long) (by decide)
  have F_closed_bn0_1 : Fld Z hn0_1 bn0_1 "com/example/ostia/ostia/PoolStatus" "closed" "J" (.long (0 : Int64)) := Dn0_1 (Or.inr (own_W hw 18 rfl)) (ty := .long) (by decide)
  have F_calls_bn0_1 : Fld Z hn0_1 bn0_1 "com/example/ostia/ostia/PoolStatus" "calls" "J" (.long (0 : Int64)) := Dn0_1 (Or.inr (own_W hw 20 rfl)) (ty := .long) (by decide)
  have F_timeouts_bn0_1 : Fld Z hn0_1 bn0_1 "com/example/ostia/ostia/PoolStatus" "timeouts" "J" (.long (0 : Int64)) := Dn0_1 (Or.inr (own_W hw 22 rfl)) (ty := .long) (by decide)
  have F_totalWaitMicros_bn0_1 : Fld Z hn0_1 bn0_1 "com/example/ostia/ostia/PoolStatus" "totalWaitMicros" "J" (.long (0 : Int64)) := Dn0_1 (Or.inr (own_W hw 24 rfl)) (ty := .long) (by decide)
  have F_longestWaitNanos_bn0_1 : Fld Z hn0_1 bn0_1 "com/example/ostia/ostia/PoolStatus" "longestWaitNanos" "J" (.long (0 : Int64)) := Dn0_1 (Or.inr (own_W hw 26 rfl)) (ty := .long) (by decide)
  obtain ⟨_, _, ⟨Tk0_3, Lk0_3, kk0_3, nk0_3⟩, -, Xk0_3, ⟨Lck0_3, hQk0_3, lk0_3, yk0_3, zk0_3⟩, stk0_3⟩ := Xn0_1.specialBack hx (y := (⟨"com/example/ostia/ostia/PoolStatus", "<init>", "(IIIJJJJJJ)V"⟩ : MethodName)) rfl hown (mvT hZ (own_W hw 3 rfl)) (mvT hZ (own_W hw 4 rfl)) (mvT hZ (own_W hw 5 rfl)) (by decide) (backOf (W := 1) (own_rm1 l Z a0 hw [] bn0_1 p0_0 p0_1 (p0_0 ^^^ (23130 : Int32)) q0_2 q0_3 q0_4 q0_5 (q0_2 ^^^ q0_3) (q0_4 ^^^ q0_5) (.int (0 : Int32)) (.int (0 : Int32)) (.int (0 : Int32)) (.long (0 : Int64)) (.long (0 : Int64)) (.long (0 : Int64)) (.long (0 : Int64)) (.long (0 : Int64)) (.long (0 : Int64)) hn0_1 n0 (Nat.le_trans Z0 sz0_2) An0_1 F_inUse_bn0_1 g_bn0_1 F_idle_bn0_1 F_waiting_bn0_1 F_opened_bn0_1 F_closed_bn0_1 F_calls_bn0_1 F_timeouts_bn0_1 F_totalWaitMicros_bn0_1 F_longestWaitNanos_bn0_1) hZ (own_W hw 5 rfl) (own_W hw 2 rfl) (by decide) (by decide)) (g := (mkF m 57 #[.val (.int p0_0), .val (.int p0_1), .val (.long q0_2), .second, .val (.long q0_3), .second, .val (.long q0_4), .second, .val (.long q0_5), .second, .val (.int (p0_0 ^^^ (23130 : Int32))), .val (.int (p0_0 + p0_1)), .val (.long (q0_4 ^^^ q0_5)), .second, .val (.long (q0_2 - q0_3)), .second, .val (.long (q0_2 ^^^ q0_3)), .second, .val (.long (q0_4 - q0_5)), .second, .unset, .unset, .unset, .unset, .unset, .unset, .unset, .unset, .unset] [(.long (q0_4 ^^^ q0_5)), (.long (q0_2 ^^^ q0_3)), (.long q0_5), (.long q0_4), (.long q0_3), (.long q0_2), (.int (p0_0 ^^^ (23130 : Int32))), (.int p0_1), (.int p0_0), (.ref bn0_1), (.ref bn0_1)])) rfl (by rw [hml]; rfl) (Steps.refl _) (a := bn0_1) (argsL := [(.int p0_0), (.int p0_1), (.int (p0_0 ^^^ (23130 : Int32))), (.long q0_2), (.long q0_3), (.long q0_4), (.long q0_5), (.long (q0_2 ^^^ q0_3)), (.long (q0_4 ^^^ q0_5))]) (rest := [(.ref bn0_1)]) (lenOf own_pd1 rfl) rfl (by show 2 * 0 + _ ≤ _; exact Nat.le_of_eq rfl) (hb hby at_57) (fun _ _ => ⟨rfl, en0_1, (by decide : 1 + 0 ≤ _), (by decide : 9 + 0 ≤ _)⟩)
  dsimp only [Pt.U, Pt.locs, Pt.cells, Pt.slots] at Xk0_3 lk0_3 yk0_3 zk0_3 stk0_3 hQk0_3
  replace lk0_3 := lk0_3.symm; replace yk0_3 := yk0_3.symm; replace zk0_3 := zk0_3.symm; subst lk0_3 yk0_3 zk0_3
  obtain ⟨rfl, Nk0_3q, Kk0_3, Qk0_3_0, Qk0_3_1, Qk0_3_2, Qk0_3_3, Qk0_3_4, Qk0_3_5, Qk0_3_6, Qk0_3_7, Qk0_3_8, Qk0_3_9⟩ := hQk0_3
  have sz0_4 : h0.size ≤ Tk0_3.heap.size := Nat.le_trans sz0_2 Kk0_3.1
  have Nk0_3 := Fr.app N0 Nk0_3q
  obtain ⟨Tn0_5, hn0_5, Xn0_5, en0_5, En0_5, An0_5, Dn0_5, -, stn0_5⟩ := newO Xk0_3 hx hZ hown (own_W hw 0 rfl) (own_W hw 1 rfl) (own_W hw 2 rfl) rfl (g := (mkF m 62 #[.val (.int p0_0), .val (.int p0_1), .val (.long q0_2), .second, .val (.long q0_3), .second, .val (.long q0_4), .second, .val (.long q0_5), .second, .val (.int (p0_0 ^^^ (23130 : Int32))), .val (.int (p0_0 + p0_1)), .val (.long (q0_4 ^^^ q0_5)), .second, .val (.long (q0_2 - q0_3)), .second, .val (.long (q0_2 ^^^ q0_3)), .second, .val (.long (q0_4 - q0_5)), .second, .val (.ref bn0_1), .unset, .unset, .unset, .unset, .unset, .unset, .unset, .unset] [])) rfl (hb hby at_62) (by decide) (by decide)
  obtain ⟨bn0_5, gn0_5⟩ : ∃ z, z = Tk0_3.heap.size := ⟨_, rfl⟩
  rw [← gn0_5] at An0_5 Dn0_5 stn0_5
  have g_bn0_5 : n0 ≤ bn0_5 := Nat.le_trans (Nat.le_trans Z0 sz0_4) (Nat.le_of_eq gn0_5.symm)
  have sz_bn0_5 : h0.size ≤ bn0_5 := Nat.le_trans sz0_4 (Nat.le_of_eq gn0_5.symm)
  have sz0_6 : h0.size ≤ hn0_5.size := Nat.le_trans sz0_4 En0_5.1
  have F_inUse_bn0_5 : Fld Z hn0_5 bn0_5 "com/example/ostia/ostia/PoolStatus" "inUse" "I" (.int (0 : Int32)) := Dn0_5 (Or.inr (own_W hw 10 rfl)) (ty := .int) (by decide)
  have F_idle_bn0_5 : Fld Z hn0_5 bn0_5 "com/example/ostia/ostia/PoolStatus" "idle" "I" (.int (0 : Int32)) := Dn0_5 (Or.inr (own_W hw 12 rfl)) (ty := .int) (by decide)
  have F_waiting_bn0_5 : Fld Z hn0_5 bn0_5 "com/example/ostia/ostia/PoolStatus" "waiting" "I" (.int (0 : Int32)) := Dn0_5 (Or.inr (own_W hw 14 rfl)) (ty := .int) (by decide)
  have F_opened_bn0_5 : Fld Z hn0_5 bn0_5 "com/example/ostia/ostia/PoolStatus" "opened" "J" (.long (0 : Int64)) := Dn0_5 (Or.inr (own_W hw 16 rfl)) (ty := .long) (by decide)
  have F_closed_bn0_5 : Fld Z hn0_5 bn0_5 "com/example/ostia/ostia/PoolStatus" "closed" "J" (.long (0 : Int64)) := Dn0_5 (Or.inr (own_W hw 18 rfl)) (ty := .long) (by decide)
  have F_calls_bn0_5 : Fld Z hn0_5 bn0_5 "com/example/ostia/ostia/PoolStatus" "calls" "J" (.long (0 : Int64)) := Dn0_5 (Or.inr (own_W hw 20 rfl)) (ty := .long) (by decide)
  have F_timeouts_bn0_5 : Fld Z hn0_5 bn0_5 "com/example/ostia/ostia/PoolStatus" "timeouts" "J" (.long (0 : Int64)) := Dn0_5 (Or.inr (own_W hw 22 rfl)) (ty := .long) (by decide)
  have F_totalWaitMicros_bn0_5 : Fld Z hn0_5 bn0_5 "com/example/ostia/ostia/PoolStatus" "totalWaitMicros" "J" (.long (0 : Int64)) := Dn0_5 (Or.inr (own_W hw 24 rfl)) (ty := .long) (by decide)
  have F_longestWaitNanos_bn0_5 : Fld Z hn0_5 bn0_5 "com/example/ostia/ostia/PoolStatus" "longestWaitNanos" "J" (.long (0 : Int64)) := Dn0_5 (Or.inr (own_W hw 26 rfl)) (ty := .long) (by decide)
  obtain ⟨_, _, ⟨Tk0_7, Lk0_7, kk0_7, nk0_7⟩, -, Xk0_7, ⟨Lck0_7, hQk0_7, lk0_7, yk0_7, zk0_7⟩, stk0_7⟩ := Xn0_5.specialBack hx (y := (⟨"com/example/ostia/ostia/PoolStatus", "<init>", "(IIIJJJJJJ)V"⟩ : MethodName)) rfl hown (mvT hZ (own_W hw 3 rfl)) (mvT hZ (own_W hw 4 rfl)) (mvT hZ (own_W hw 5 rfl)) (by decide) (backOf (W := 1) (own_rm1 l Z a0 hw [] bn0_5 p0_1 (p0_0 ^^^ (-1 : Int32)) (p0_0 + p0_1) q0_3 q0_4 q0_5 q0_2 (q0_4 - q0_5) (q0_2 - q0_3) (.int (0 : Int32)) (.int (0 : Int32)) (.int (0 : Int32)) (.long (0 : Int64)) (.long (0 : Int64)) (.long (0 : Int64)) (.long (0 : Int64)) (.long (0 : Int64)) (.long (0 : Int64)) hn0_5 n0 (Nat.le_trans Z0 sz0_6) An0_5 F_inUse_bn0_5 g_bn0_5 F_idle_bn0_5 F_waiting_bn0_5 F_opened_bn0_5 F_closed_bn0_5 F_calls_bn0_5 F_timeouts_bn0_5 F_totalWaitMicros_bn0_5 F_longestWaitNanos_bn0_5) hZ (own_W hw 5 rfl) (own_W hw 2 rfl) (by decide) (by decide)) (g := (mkF m 83 #[.val (.int p0_0), .val (.int p0_1), .val (.long q0_2), .second, .val (.long q0_3), .second, .val (.long q0_4), .second, .val (.long q0_5), .second, .val (.int (p0_0 ^^^ (23130 : Int32))), .val (.int (p0_0 + p0_1)), .val (.long (q0_4 ^^^ q0_5)), .second, .val (.long (q0_2 - q0_3)), .second, .val (.long (q0_2 ^^^ q0_3)), .second, .val (.long (q0_4 - q0_5)), .second, .val (.ref bn0_1), .unset, .unset, .unset, .unset, .unset, .unset, .unset, .unset] [(.long (q0_2 - q0_3)), (.long (q0_4 - q0_5)), (.long q0_2), (.long q0_5), (.long q0_4), (.long q0_3), (.int (p0_0 + p0_1)), (.int (p0_0 ^^^ (-1 : Int32))), (.int p0_1), (.ref bn0_5), (.ref bn0_5)])) rfl (by rw [hml]; rfl) (Steps.refl _) (a := bn0_5) (argsL := [(.int p0_1), (.int (p0_0 ^^^ (-1 : Int32))), (.int (p0_0 + p0_1)), (.long q0_3), (.long q0_4), (.long q0_5), (.long q0_2), (.long (q0_4 - q0_5)), (.long (q0_2 - q0_3))]) (rest := [(.ref bn0_5)]) (lenOf own_pd1 rfl) rfl (by show 2 * 0 + _ ≤ _; exact Nat.le_of_eq rfl) (hb hby at_83) (fun _ _ => ⟨rfl, en0_5, (by decide : 2 + 0 ≤ _), (by decide : 18 + 0 ≤ _)⟩)
  dsimp only [Pt.U, Pt.locs, Pt.cells, Pt.slots] at Xk0_7 lk0_7 yk0_7 zk0_7 stk0_7 hQk0_7
  replace lk0_7 := lk0_7.symm; replace yk0_7 := yk0_7.symm; replace zk0_7 := zk0_7.symm; subst lk0_7 yk0_7 zk0_7
  obtain ⟨rfl, Nk0_7q, Kk0_7, Qk0_7_0, Qk0_7_1, Qk0_7_2, Qk0_7_3, Qk0_7_4, Qk0_7_5, Qk0_7_6, Qk0_7_7, Qk0_7_8, Qk0_7_9⟩ := hQk0_7
  have sz0_8 : h0.size ≤ Tk0_7.heap.size := Nat.le_trans sz0_6 Kk0_7.1
  have Nk0_7 := Fr.app Nk0_3 Nk0_7q
  have ne0_10 : bn0_1 ≠ bn0_5 := (Nat.ne_of_lt (Nat.lt_of_lt_of_le Qk0_3_9.lt (Nat.le_of_eq gn0_5.symm)))
  have F0_11 := ((Qk0_3_1.ext En0_5).keep Kk0_7 (ninS ne0_10 nin0))
  have F0_12 := ((Qk0_3_2.ext En0_5).keep Kk0_7 (ninS ne0_10 nin0))
  have F0_13 := ((Qk0_3_3.ext En0_5).keep Kk0_7 (ninS ne0_10 nin0))
  have F0_14 := ((Qk0_3_4.ext En0_5).keep Kk0_7 (ninS ne0_10 nin0))
  have F0_15 := ((Qk0_3_5.ext En0_5).keep Kk0_7 (ninS ne0_10 nin0))
  have F0_16 := ((Qk0_3_6.ext En0_5).keep Kk0_7 (ninS ne0_10 nin0))
  have F0_17 := ((Qk0_3_7.ext En0_5).keep Kk0_7 (ninS ne0_10 nin0))
  have F0_18 := ((Qk0_3_8.ext En0_5).keep Kk0_7 (ninS ne0_10 nin0))
  have F0_19 := ((Qk0_3_9.ext En0_5).keep Kk0_7 (ninS ne0_10 nin0))
  have F0_20 := ((Qk0_3_0.ext En0_5).keep Kk0_7)
  obtain ⟨cqk0_9, kqk0_9, qk0_9a, qk0_9b, qk0_9c⟩ := isOf hZ rfl F0_20
  obtain ⟨_, _, ⟨Tk0_9, Lk0_9, kk0_9, nk0_9⟩, -, Xk0_9, ⟨Lck0_9, hQk0_9, lk0_9, yk0_9, zk0_9⟩, stk0_9⟩ := Xk0_7.virtualBack hx (y := (⟨"com/example/ostia/ostia/PoolStatus", "plus", "(Lcom/example/ostia/ostia/PoolStatus;)Lcom/example/ostia/ostia/PoolStatus;"⟩ : MethodName)) (z := (⟨"com/example/ostia/ostia/PoolStatus", "plus", "(Lcom/example/ostia/ostia/PoolStatus;)Lcom/example/ostia/ostia/PoolStatus;"⟩ : MethodName)) hown (mvT hZ (own_W hw 27 rfl)) (mvT hZ (own_W hw 28 rfl)) (notFace_of_selects (args := #[]) (mvT hZ (own_W hw 30 rfl))) (mvT hZ (own_W hw 30 rfl)) (mvT hZ (own_W hw 29 rfl)) (by decide) (backOf (W := 0) (own_rm3 l Z a0 hw [] bn0_1 bn0_5 p0_0 p0_1 p0_1 (p0_0 ^^^ (-1 : Int32)) (p0_0 ^^^ (23130 : Int32)) (p0_0 + p0_1) q0_2 q0_3 q0_3 q0_4 q0_4 q0_5 q0_5 q0_2 (q0_2 ^^^ q0_3) (q0_4 - q0_5) (q0_4 ^^^ q0_5) (q0_2 - q0_3) Tk0_7.heap n0 (Nat.le_trans Z0 sz0_8) F0_11 Qk0_7_1 F0_12 Qk0_7_2 F0_13 Qk0_7_3 F0_14 Qk0_7_4 F0_15 Qk0_7_5 F0_16 Qk0_7_6 F0_17 Qk0_7_7 F0_18 Qk0_7_8 F0_19 Qk0_7_9) hZ (own_W hw 31 rfl) (own_W hw 2 rfl) (by decide) (by decide)) qk0_9a qk0_9c (g := (mkF m 92 #[.val (.int p0_0), .val (.int p0_1), .val (.long q0_2), .second, .val (.long q0_3), .second, .val (.long q0_4), .second, .val (.long q0_5), .second, .val (.int (p0_0 ^^^ (23130 : Int32))), .val (.int (p0_0 + p0_1)), .val (.long (q0_4 ^^^ q0_5)), .second, .val (.long (q0_2 - q0_3)), .second, .val (.long (q0_2 ^^^ q0_3)), .second, .val (.long (q0_4 - q0_5)), .second, .val (.ref bn0_1), .val (.ref bn0_5), .unset, .unset, .unset, .unset, .unset, .unset, .unset] [(.ref bn0_5), (.ref bn0_1)])) rfl (by rw [hml]; rfl) (Steps.refl _) (argsL := [(.ref bn0_5)]) (rest := []) (lenOf own_pd3 rfl) rfl (by show 2 * 0 + _ ≤ _; exact Nat.le_of_eq rfl) (hb hby at_92) (fun _ _ => ⟨rfl, rfl, (by decide : 2 + 1 ≤ _), (by decide : 18 + 9 ≤ _)⟩)
  dsimp only [Pt.U, Pt.locs, Pt.cells, Pt.slots] at Xk0_9 lk0_9 yk0_9 zk0_9 stk0_9 hQk0_9
  replace lk0_9 := lk0_9.symm; replace yk0_9 := yk0_9.symm; replace zk0_9 := zk0_9.symm; subst lk0_9 yk0_9 zk0_9
  obtain ⟨bk0_9_0, rfl, Nk0_9q, Kk0_9, lebk0_9_0, Qk0_9_0, Qk0_9_1, Qk0_9_2, Qk0_9_3, Qk0_9_4, Qk0_9_5, Qk0_9_6, Qk0_9_7, Qk0_9_8, Qk0_9_9⟩ := hQk0_9
  have g_bk0_9_0 : n0 ≤ bk0_9_0 := Nat.le_trans (Nat.le_trans Z0 sz0_8) lebk0_9_0
  have sz_bk0_9_0 : h0.size ≤ bk0_9_0 := Nat.le_trans sz0_8 lebk0_9_0
  have sz0_21 : h0.size ≤ Tk0_9.heap.size := Nat.le_trans sz0_8 Kk0_9.1
  have Nk0_9 := Fr.app Nk0_7 Nk0_9q
  obtain ⟨Tj0_22, lj0_22, Xj0_22, Nj0_22, ej0_22, stj0_22⟩ : ∃ (T' : State) (l' : List Loc), Stand p l e room_1 s m #[(.int p0_0), (.int p0_1), (.long q0_2), (.long q0_3), (.long q0_4), (.long q0_5)] below meth c T' l' 3 27 ∧ Fr n0 l' ∧ T'.heap = Tk0_9.heap ∧ ∀ target, Steps p.tables e below (T'.setTop (mkF m 134 #[.val (.int p0_0), .val (.int p0_1), .val (.long q0_2), .second, .val (.long q0_3), .second, .val (.long q0_4), .second, .val (.long q0_5), .second, .val (.int (p0_0 ^^^ (23130 : Int32))), .val (.int (p0_0 + p0_1)), .val (.long (q0_4 ^^^ q0_5)), .second, .val (.long (q0_2 - q0_3)), .second, .val (.long (q0_2 ^^^ q0_3)), .second, .val (.long (q0_4 - q0_5)), .second, .val (.ref bn0_1), .val (.ref bn0_5), .val (.ref bk0_9_0), .val (.long (q0_4 + q0_5)), .second, .val (.long (own_v0_0 q0_2 q0_3 q0_4 q0_5)), .second, .val (.double (own_j0_2 q0_2 q0_3 q0_4 q0_5)), .second] [])) target → Steps p.tables e below (Tk0_9.setTop (mkF m 118 #[.val (.int p0_0), .val (.int p0_1), .val (.long q0_2), .second, .val (.long q0_3), .second, .val (.long q0_4), .second, .val (.long q0_5), .second, .val (.int (p0_0 ^^^ (23130 : Int32))), .val (.int (p0_0 + p0_1)), .val (.long (q0_4 ^^^ q0_5)), .second, .val (.long (q0_2 - q0_3)), .second, .val (.long (q0_2 ^^^ q0_3)), .second, .val (.long (q0_4 - q0_5)), .second, .val (.ref bn0_1), .val (.ref bn0_5), .val (.ref bk0_9_0), .val (.long (q0_4 + q0_5)), .second, .val (.long (own_v0_0 q0_2 q0_3 q0_4 q0_5)), .second, .val (.double (0 : UInt64)), .second] [(.int (XT.cmpL (q0_4 + q0_5) (0 : Int64)))])) target := by
    by_cases hj0_22 : (0 : Int64) < (q0_4 + q0_5)
    · refine ⟨_, _, Xk0_9, Nk0_9, rfl, fun target kt => ?_⟩
      rw [(show (own_j0_2 q0_2 q0_3 q0_4 q0_5) = (own_v0_1 q0_2 q0_3 q0_4 q0_5) from if_pos hj0_22)] at kt
      show Steps p.tables e below (Tk0_9.setTop (mkF m 118 #[.val (.int p0_0), .val (.int p0_1), .val (.long q0_2), .second, .val (.long q0_3), .second, .val (.long q0_4), .second, .val (.long q0_5), .second, .val (.int (p0_0 ^^^ (23130 : Int32))), .val (.int (p0_0 + p0_1)), .val (.long (q0_4 ^^^ q0_5)), .second, .val (.long (q0_2 - q0_3)), .second, .val (.long (q0_2 ^^^ q0_3)), .second, .val (.long (q0_4 - q0_5)), .second, .val (.ref bn0_1), .val (.ref bn0_5), .val (.ref bk0_9_0), .val (.long (q0_4 + q0_5)), .second, .val (.long (own_v0_0 q0_2 q0_3 q0_4 q0_5)), .second, .val (.double (0 : UInt64)), .second] [(.int (XT.cmpL (q0_4 + q0_5) (0 : Int64)))])) _
      refine XS.ifNo Xk0_9.here hx rfl (hb hby at_118) rfl (XT.ll_le_f hj0_22) ?_
      refine XT.lload Xk0_9.here hx rfl (hb hby at_121) rfl ?_
      refine XS.l2dS Xk0_9.here hx rfl (hb hby at_123) rfl rfl ?_
      refine Xk0_9.ldc2DoubleC hx hown (mvT hZ (own_W hw 38 rfl)) (g := (mkF m 124 #[.val (.int p0_0), .val (.int p0_1), .val (.long q0_2), .second, .val (.long q0_3), .second, .val (.long q0_4), .second, .val (.long q0_5), .second, .val (.int (p0_0 ^^^ (23130 : Int32))), .val (.int (p0_0 + p0_1)), .val (.long (q0_4 ^^^ q0_5)), .second, .val (.long (q0_2 - q0_3)), .second, .val (.long (q0_2 ^^^ q0_3)), .second, .val (.long (q0_4 - q0_5)), .second, .val (.ref bn0_1), .val (.ref bn0_5), .val (.ref bk0_9_0), .val (.long (q0_4 + q0_5)), .second, .val (.long (own_v0_0 q0_2 q0_3 q0_4 q0_5)), .second, .val (.double (0 : UInt64)), .second] [(.double (FP.l2d (own_v0_0 q0_2 q0_3 q0_4 q0_5)))])) rfl (hb hby at_124) _ ?_
      show Steps p.tables e below (Tk0_9.setTop (mkF m 127 #[.val (.int p0_0), .val (.int p0_1), .val (.long q0_2), .second, .val (.long q0_3), .second, .val (.long q0_4), .second, .val (.long q0_5), .second, .val (.int (p0_0 ^^^ (23130 : Int32))), .val (.int (p0_0 + p0_1)), .val (.long (q0_4 ^^^ q0_5)), .second, .val (.long (q0_2 - q0_3)), .second, .val (.long (q0_2 ^^^ q0_3)), .second, .val (.long (q0_4 - q0_5)), .second, .val (.ref bn0_1), .val (.ref bn0_5), .val (.ref bk0_9_0), .val (.long (q0_4 + q0_5)), .second, .val (.long (own_v0_0 q0_2 q0_3 q0_4 q0_5)), .second, .val (.double (0 : UInt64)), .second] [(.double (4652007308841189376 : UInt64)), (.double (FP.l2d (own_v0_0 q0_2 q0_3 q0_4 q0_5)))])) _
      refine XS.ddivS Xk0_9.here hx rfl (hb hby at_127) rfl nn127 rfl ?_
      refine XT.lload Xk0_9.here hx rfl (hb hby at_128) rfl ?_
      refine XS.l2dS Xk0_9.here hx rfl (hb hby at_130) rfl rfl ?_
      refine XS.ddivS Xk0_9.here hx rfl (hb hby at_131) rfl (nn131 hj0_22) rfl ?_
      refine XS.dstore Xk0_9.here hx rfl (hb hby at_132) rfl (l' := #[.val (.int p0_0), .val (.int p0_1), .val (.long q0_2), .second, .val (.long q0_3), .second, .val (.long q0_4), .second, .val (.long q0_5), .second, .val (.int (p0_0 ^^^ (23130 : Int32))), .val (.int (p0_0 + p0_1)), .val (.long (q0_4 ^^^ q0_5)), .second, .val (.long (q0_2 - q0_3)), .second, .val (.long (q0_2 ^^^ q0_3)), .second, .val (.long (q0_4 - q0_5)), .second, .val (.ref bn0_1), .val (.ref bn0_5), .val (.ref bk0_9_0), .val (.long (q0_4 + q0_5)), .second, .val (.long (own_v0_0 q0_2 q0_3 q0_4 q0_5)), .second, .val (.double (own_v0_1 q0_2 q0_3 q0_4 q0_5)), .second]) rfl ?_
      exact kt
    · refine ⟨_, _, Xk0_9, Nk0_9, rfl, fun target kt => ?_⟩
      rw [(show (own_j0_2 q0_2 q0_3 q0_4 q0_5) = (0 : UInt64) from if_neg hj0_22)] at kt
      show Steps p.tables e below (Tk0_9.setTop (mkF m 118 #[.val (.int p0_0), .val (.int p0_1), .val (.long q0_2), .second, .val (.long q0_3), .second, .val (.long q0_4), .second, .val (.long q0_5), .second, .val (.int (p0_0 ^^^ (23130 : Int32))), .val (.int (p0_0 + p0_1)), .val (.long (q0_4 ^^^ q0_5)), .second, .val (.long (q0_2 - q0_3)), .second, .val (.long (q0_2 ^^^ q0_3)), .second, .val (.long (q0_4 - q0_5)), .second, .val (.ref bn0_1), .val (.ref bn0_5), .val (.ref bk0_9_0), .val (.long (q0_4 + q0_5)), .second, .val (.long (own_v0_0 q0_2 q0_3 q0_4 q0_5)), .second, .val (.double (0 : UInt64)), .second] [(.int (XT.cmpL (q0_4 + q0_5) (0 : Int64)))])) _
      refine XS.ifYes Xk0_9.here hx rfl (pc0 := 118) (pc' := 134) rfl (hb hby at_118) rfl (XT.ll_le_t hj0_22) (by decide) (by decide) ?_
      exact kt
  obtain ⟨cqk0_23, kqk0_23, qk0_23a, qk0_23b, qk0_23c⟩ := isOf hZ ej0_22 Qk0_9_0
  obtain ⟨_, _, ⟨Tk0_23, Lk0_23, kk0_23, nk0_23⟩, -, Xk0_23, ⟨Lck0_23, hQk0_23, lk0_23, yk0_23, zk0_23⟩, stk0_23⟩ := Xj0_22.virtualBack hx (y := (⟨"com/example/ostia/ostia/PoolStatus", "inUse", "()I"⟩ : MethodName)) (z := (⟨"com/example/ostia/ostia/PoolStatus", "inUse", "()I"⟩ : MethodName)) hown (mvT hZ (own_W hw 39 rfl)) (mvT hZ (own_W hw 40 rfl)) (notFace_of_selects (args := #[]) (mvT hZ (own_W hw 42 rfl))) (mvT hZ (own_W hw 42 rfl)) (mvT hZ (own_W hw 41 rfl)) (by decide) (backOf (W := 0) (own_rm5 l Z a0 hw [] bk0_9_0 (p0_0 + p0_1) Tk0_9.heap n0 (Nat.le_trans Z0 sz0_21) Qk0_9_1) hZ (own_W hw 43 rfl) (own_W hw 2 rfl) (by decide) (by decide)) qk0_23a qk0_23c (g := (mkF m 136 #[.val (.int p0_0), .val (.int p0_1), .val (.long q0_2), .second, .val (.long q0_3), .second, .val (.long q0_4), .second, .val (.long q0_5), .second, .val (.int (p0_0 ^^^ (23130 : Int32))), .val (.int (p0_0 + p0_1)), .val (.long (q0_4 ^^^ q0_5)), .second, .val (.long (q0_2 - q0_3)), .second, .val (.long (q0_2 ^^^ q0_3)), .second, .val (.long (q0_4 - q0_5)), .second, .val (.ref bn0_1), .val (.ref bn0_5), .val (.ref bk0_9_0), .val (.long (q0_4 + q0_5)), .second, .val (.long (own_v0_0 q0_2 q0_3 q0_4 q0_5)), .second, .val (.double (own_j0_2 q0_2 q0_3 q0_4 q0_5)), .second] [(.ref bk0_9_0)])) rfl (by rw [hml]; rfl) (Steps.refl _) (argsL := []) (rest := []) (lenOf own_pd4 rfl) rfl (by show 2 * 0 + _ ≤ _; exact Nat.le_of_eq rfl) (hb hby at_136) (fun _ _ => ⟨rfl, ej0_22, (by decide : 3 + 0 ≤ _), (by decide : 27 + 0 ≤ _)⟩)
  dsimp only [Pt.U, Pt.locs, Pt.cells, Pt.slots] at Xk0_23 lk0_23 yk0_23 zk0_23 stk0_23 hQk0_23
  replace lk0_23 := lk0_23.symm; replace yk0_23 := yk0_23.symm; replace zk0_23 := zk0_23.symm; subst lk0_23 yk0_23 zk0_23
  obtain ⟨rfl, Nk0_23q, ek0_23⟩ := hQk0_23
  have Nk0_23 := Fr.app Nj0_22 Nk0_23q
  obtain ⟨cqk0_24, kqk0_24, qk0_24a, qk0_24b, qk0_24c⟩ := isOf hZ ek0_23 Qk0_9_0
  obtain ⟨_, _, ⟨Tk0_24, Lk0_24, kk0_24, nk0_24⟩, -, Xk0_24, ⟨Lck0_24, hQk0_24, lk0_24, yk0_24, zk0_24⟩, stk0_24⟩ := Xk0_23.virtualBack hx (y := (⟨"com/example/ostia/ostia/PoolStatus", "idle", "()I"⟩ : MethodName)) (z := (⟨"com/example/ostia/ostia/PoolStatus", "idle", "()I"⟩ : MethodName)) hown (mvT hZ (own_W hw 44 rfl)) (mvT hZ (own_W hw 45 rfl)) (notFace_of_selects (args := #[]) (mvT hZ (own_W hw 47 rfl))) (mvT hZ (own_W hw 47 rfl)) (mvT hZ (own_W hw 46 rfl)) (by decide) (backOf (W := 0) (own_rm6 l Z a0 hw [] bk0_9_0 (p0_1 + (p0_0 ^^^ (-1 : Int32))) Tk0_9.heap n0 (Nat.le_trans Z0 sz0_21) Qk0_9_2) hZ (own_W hw 48 rfl) (own_W hw 2 rfl) (by decide) (by decide)) qk0_24a qk0_24c (g := (mkF m 147 #[.val (.int p0_0), .val (.int p0_1), .val (.long q0_2), .second, .val (.long q0_3), .second, .val (.long q0_4), .second, .val (.long q0_5), .second, .val (.int (p0_0 ^^^ (23130 : Int32))), .val (.int (p0_0 + p0_1)), .val (.long (q0_4 ^^^ q0_5)), .second, .val (.long (q0_2 - q0_3)), .second, .val (.long (q0_2 ^^^ q0_3)), .second, .val (.long (q0_4 - q0_5)), .second, .val (.ref bn0_1), .val (.ref bn0_5), .val (.ref bk0_9_0), .val (.long (q0_4 + q0_5)), .second, .val (.long (own_v0_0 q0_2 q0_3 q0_4 q0_5)), .second, .val (.double (own_j0_2 q0_2 q0_3 q0_4 q0_5)), .second] [(.ref bk0_9_0)])) rfl (by rw [hml]; rfl) (Steps.refl _) (argsL := []) (rest := []) (lenOf own_pd4 rfl) rfl (by show 2 * 0 + _ ≤ _; exact Nat.le_of_eq rfl) (hb hby at_147) (fun _ _ => ⟨rfl, ek0_23, (by decide : 3 + 0 ≤ _), (by decide : 27 + 0 ≤ _)⟩)
  dsimp only [Pt.U, Pt.locs, Pt.cells, Pt.slots] at Xk0_24 lk0_24 yk0_24 zk0_24 stk0_24 hQk0_24
  replace lk0_24 := lk0_24.symm; replace yk0_24 := yk0_24.symm; replace zk0_24 := zk0_24.symm; subst lk0_24 yk0_24 zk0_24
  obtain ⟨rfl, Nk0_24q, ek0_24⟩ := hQk0_24
  have Nk0_24 := Fr.app Nk0_23 Nk0_24q
  obtain ⟨cqk0_25, kqk0_25, qk0_25a, qk0_25b, qk0_25c⟩ := isOf hZ ek0_24 Qk0_9_0
  obtain ⟨_, _, ⟨Tk0_25, Lk0_25, kk0_25, nk0_25⟩, -, Xk0_25, ⟨Lck0_25, hQk0_25, lk0_25, yk0_25, zk0_25⟩, stk0_25⟩ := Xk0_24.virtualBack hx (y := (⟨"com/example/ostia/ostia/PoolStatus", "waiting", "()I"⟩ : MethodName)) (z := (⟨"com/example/ostia/ostia/PoolStatus", "waiting", "()I"⟩ : MethodName)) hown (mvT hZ (own_W hw 49 rfl)) (mvT hZ (own_W hw 50 rfl)) (notFace_of_selects (args := #[]) (mvT hZ (own_W hw 52 rfl))) (mvT hZ (own_W hw 52 rfl)) (mvT hZ (own_W hw 51 rfl)) (by decide) (backOf (W := 0) (own_rm7 l Z a0 hw [] bk0_9_0 ((p0_0 ^^^ (23130 : Int32)) + (p0_0 + p0_1)) Tk0_9.heap n0 (Nat.le_trans Z0 sz0_21) Qk0_9_3) hZ (own_W hw 53 rfl) (own_W hw 2 rfl) (by decide) (by decide)) qk0_25a qk0_25c (g := (mkF m 160 #[.val (.int p0_0), .val (.int p0_1), .val (.long q0_2), .second, .val (.long q0_3), .second, .val (.long q0_4), .second, .val (.long q0_5), .second, .val (.int (p0_0 ^^^ (23130 : Int32))), .val (.int (p0_0 + p0_1)), .val (.long (q0_4 ^^^ q0_5)), .second, .val (.long (q0_2 - q0_3)), .second, .val (.long (q0_2 ^^^ q0_3)), .second, .val (.long (q0_4 - q0_5)), .second, .val (.ref bn0_1), .val (.ref bn0_5), .val (.ref bk0_9_0), .val (.long (q0_4 + q0_5)), .second, .val (.long (own_v0_0 q0_2 q0_3 q0_4 q0_5)), .second, .val (.double (own_j0_2 q0_2 q0_3 q0_4 q0_5)), .second] [(.ref bk0_9_0)])) rfl (by rw [hml]; rfl) (Steps.refl _) (argsL := []) (rest := []) (lenOf own_pd4 rfl) rfl (by show 2 * 0 + _ ≤ _; exact Nat.le_of_eq rfl) (hb hby at_160) (fun _ _ => ⟨rfl, ek0_24, (by decide : 3 + 0 ≤ _), (by decide : 27 + 0 ≤ _)⟩)
  dsimp only [Pt.U, Pt.locs, Pt.cells, Pt.slots] at Xk0_25 lk0_25 yk0_25 zk0_25 stk0_25 hQk0_25
  replace lk0_25 := lk0_25.symm; replace yk0_25 := yk0_25.symm; replace zk0_25 := zk0_25.symm; subst lk0_25 yk0_25 zk0_25
  obtain ⟨rfl, Nk0_25q, ek0_25⟩ := hQk0_25
  have Nk0_25 := Fr.app Nk0_24 Nk0_25q
  obtain ⟨cqk0_26, kqk0_26, qk0_26a, qk0_26b, qk0_26c⟩ := isOf hZ ek0_25 Qk0_9_0
  obtain ⟨_, _, ⟨Tk0_26, Lk0_26, kk0_26, nk0_26⟩, -, Xk0_26, ⟨Lck0_26, hQk0_26, lk0_26, yk0_26, zk0_26⟩, stk0_26⟩ := Xk0_25.virtualBack hx (y := (⟨"com/example/ostia/ostia/PoolStatus", "opened", "()J"⟩ : MethodName)) (z := (⟨"com/example/ostia/ostia/PoolStatus", "opened", "()J"⟩ : MethodName)) hown (mvT hZ (own_W hw 54 rfl)) (mvT hZ (own_W hw 55 rfl)) (notFace_of_selects (args := #[]) (mvT hZ (own_W hw 57 rfl))) (mvT hZ (own_W hw 57 rfl)) (mvT hZ (own_W hw 56 rfl)) (by decide) (backOf (W := 0) (own_rm8 l Z a0 hw [] bk0_9_0 (q0_2 + q0_3) Tk0_9.heap n0 (Nat.le_trans Z0 sz0_21) Qk0_9_4) hZ (own_W hw 58 rfl) (own_W hw 2 rfl) (by decide) (by decide)) qk0_26a qk0_26c (g := (mkF m 173 #[.val (.int p0_0), .val (.int p0_1), .val (.long q0_2), .second, .val (.long q0_3), .second, .val (.long q0_4), .second, .val (.long q0_5), .second, .val (.int (p0_0 ^^^ (23130 : Int32))), .val (.int (p0_0 + p0_1)), .val (.long (q0_4 ^^^ q0_5)), .second, .val (.long (q0_2 - q0_3)), .second, .val (.long (q0_2 ^^^ q0_3)), .second, .val (.long (q0_4 - q0_5)), .second, .val (.ref bn0_1), .val (.ref bn0_5), .val (.ref bk0_9_0), .val (.long (q0_4 + q0_5)), .second, .val (.long (own_v0_0 q0_2 q0_3 q0_4 q0_5)), .second, .val (.double (own_j0_2 q0_2 q0_3 q0_4 q0_5)), .second] [(.ref bk0_9_0)])) rfl (by rw [hml]; rfl) (Steps.refl _) (argsL := []) (rest := []) (lenOf own_pd5 rfl) rfl (by show 2 * 0 + _ ≤ _; exact Nat.le_of_eq rfl) (hb hby at_173) (fun _ _ => ⟨rfl, ek0_25, (by decide : 3 + 0 ≤ _), (by decide : 27 + 0 ≤ _)⟩)
  dsimp only [Pt.U, Pt.locs, Pt.cells, Pt.slots] at Xk0_26 lk0_26 yk0_26 zk0_26 stk0_26 hQk0_26
  replace lk0_26 := lk0_26.symm; replace yk0_26 := yk0_26.symm; replace zk0_26 := zk0_26.symm; subst lk0_26 yk0_26 zk0_26
  obtain ⟨rfl, Nk0_26q, ek0_26⟩ := hQk0_26
  have Nk0_26 := Fr.app Nk0_25 Nk0_26q
  obtain ⟨cqk0_27, kqk0_27, qk0_27a, qk0_27b, qk0_27c⟩ := isOf hZ ek0_26 Qk0_9_0
  obtain ⟨_, _, ⟨Tk0_27, Lk0_27, kk0_27, nk0_27⟩, -, Xk0_27, ⟨Lck0_27, hQk0_27, lk0_27, yk0_27, zk0_27⟩, stk0_27⟩ := Xk0_26.virtualBack hx (y := (⟨"com/example/ostia/ostia/PoolStatus", "closed", "()J"⟩ : MethodName)) (z := (⟨"com/example/ostia/ostia/PoolStatus", "closed", "()J"⟩ : MethodName)) hown (mvT hZ (own_W hw 59 rfl)) (mvT hZ (own_W hw 60 rfl)) (notFace_of_selects (args := #[]) (mvT hZ (own_W hw 62 rfl))) (mvT hZ (own_W hw 62 rfl)) (mvT hZ (own_W hw 61 rfl)) (by decide) (backOf (W := 0) (own_rm9 l Z a0 hw [] bk0_9_0 (q0_3 + q0_4) Tk0_9.heap n0 (Nat.le_trans Z0 sz0_21) Qk0_9_5) hZ (own_W hw 63 rfl) (own_W hw 2 rfl) (by decide) (by decide)) qk0_27a qk0_27c (g := (mkF m 186 #[.val (.int p0_0), .val (.int p0_1), .val (.long q0_2), .second, .val (.long q0_3), .second, .val (.long q0_4), .second, .val (.long q0_5), .second, .val (.int (p0_0 ^^^ (23130 : Int32))), .val (.int (p0_0 + p0_1)), .val (.long (q0_4 ^^^ q0_5)), .second, .val (.long (q0_2 - q0_3)), .second, .val (.long (q0_2 ^^^ q0_3)), .second, .val (.long (q0_4 - q0_5)), .second, .val (.ref bn0_1), .val (.ref bn0_5), .val (.ref bk0_9_0), .val (.long (q0_4 + q0_5)), .second, .val (.long (own_v0_0 q0_2 q0_3 q0_4 q0_5)), .second, .val (.double (own_j0_2 q0_2 q0_3 q0_4 q0_5)), .second] [(.ref bk0_9_0)])) rfl (by rw [hml]; rfl) (Steps.refl _) (argsL := []) (rest := []) (lenOf own_pd5 rfl) rfl (by show 2 * 0 + _ ≤ _; exact Nat.le_of_eq rfl) (hb hby at_186) (fun _ _ => ⟨rfl, ek0_26, (by decide : 3 + 0 ≤ _), (by decide : 27 + 0 ≤ _)⟩)
  dsimp only [Pt.U, Pt.locs, Pt.cells, Pt.slots] at Xk0_27 lk0_27 yk0_27 zk0_27 stk0_27 hQk0_27
  replace lk0_27 := lk0_27.symm; replace yk0_27 := yk0_27.symm; replace zk0_27 := zk0_27.symm; subst lk0_27 yk0_27 zk0_27
  obtain ⟨rfl, Nk0_27q, ek0_27⟩ := hQk0_27
  have Nk0_27 := Fr.app Nk0_26 Nk0_27q
  obtain ⟨cqk0_28, kqk0_28, qk0_28a, qk0_28b, qk0_28c⟩ := isOf hZ ek0_27 Qk0_9_0
  obtain ⟨_, _, ⟨Tk0_28, Lk0_28, kk0_28, nk0_28⟩, -, Xk0_28, ⟨Lck0_28, hQk0_28, lk0_28, yk0_28, zk0_28⟩, stk0_28⟩ := Xk0_27.virtualBack hx (y := (⟨"com/example/ostia/ostia/PoolStatus", "timeouts", "()J"⟩ : MethodName)) (z := (⟨"com/example/ostia/ostia/PoolStatus", "timeouts", "()J"⟩ : MethodName)) hown (mvT hZ (own_W hw 64 rfl)) (mvT hZ (own_W hw 65 rfl)) (notFace_of_selects (args := #[]) (mvT hZ (own_W hw 67 rfl))) (mvT hZ (own_W hw 67 rfl)) (mvT hZ (own_W hw 66 rfl)) (by decide) (backOf (W := 0) (own_rm10 l Z a0 hw [] bk0_9_0 (q0_5 + q0_2) Tk0_9.heap n0 (Nat.le_trans Z0 sz0_21) Qk0_9_7) hZ (own_W hw 68 rfl) (own_W hw 2 rfl) (by decide) (by decide)) qk0_28a qk0_28c (g := (mkF m 200 #[.val (.int p0_0), .val (.int p0_1), .val (.long q0_2), .second, .val (.long q0_3), .second, .val (.long q0_4), .second, .val (.long q0_5), .second, .val (.int (p0_0 ^^^ (23130 : Int32))), .val (.int (p0_0 + p0_1)), .val (.long (q0_4 ^^^ q0_5)), .second, .val (.long (q0_2 - q0_3)), .second, .val (.long (q0_2 ^^^ q0_3)), .second, .val (.long (q0_4 - q0_5)), .second, .val (.ref bn0_1), .val (.ref bn0_5), .val (.ref bk0_9_0), .val (.long (q0_4 + q0_5)), .second, .val (.long (own_v0_0 q0_2 q0_3 q0_4 q0_5)), .second, .val (.double (own_j0_2 q0_2 q0_3 q0_4 q0_5)), .second] [(.ref bk0_9_0)])) rfl (by rw [hml]; rfl) (Steps.refl _) (argsL := []) (rest := []) (lenOf own_pd5 rfl) rfl (by show 2 * 0 + _ ≤ _; exact Nat.le_of_eq rfl) (hb hby at_200) (fun _ _ => ⟨rfl, ek0_27, (by decide : 3 + 0 ≤ _), (by decide : 27 + 0 ≤ _)⟩)
  dsimp only [Pt.U, Pt.locs, Pt.cells, Pt.slots] at Xk0_28 lk0_28 yk0_28 zk0_28 stk0_28 hQk0_28
  replace lk0_28 := lk0_28.symm; replace yk0_28 := yk0_28.symm; replace zk0_28 := zk0_28.symm; subst lk0_28 yk0_28 zk0_28
  obtain ⟨rfl, Nk0_28q, ek0_28⟩ := hQk0_28
  have Nk0_28 := Fr.app Nk0_27 Nk0_28q
  have F0_30 := (((((O_h.ext En0_1).keep Kk0_3 (allS g_bn0_1 all0)).ext En0_5).keep Kk0_7 (allS g_bn0_5 all0)).keep Kk0_9 all0)
  obtain ⟨cqk0_29, kqk0_29, qk0_29a, qk0_29b, qk0_29c⟩ := isOf hZ ek0_28 Qk0_9_0
  obtain ⟨_, _, ⟨Tk0_29, Lk0_29, kk0_29, nk0_29⟩, -, Xk0_29, ⟨Lck0_29, hQk0_29, lk0_29, yk0_29, zk0_29⟩, stk0_29⟩ := Xk0_28.virtualBack hx (y := (⟨"com/example/ostia/ostia/PoolStatus", "longestWaitMillis", "()J"⟩ : MethodName)) (z := (⟨"com/example/ostia/ostia/PoolStatus", "longestWaitMillis", "()J"⟩ : MethodName)) hown (mvT hZ (own_W hw 69 rfl)) (mvT hZ (own_W hw 70 rfl)) (notFace_of_selects (args := #[]) (mvT hZ (own_W hw 72 rfl))) (mvT hZ (own_W hw 72 rfl)) (mvT hZ (own_W hw 71 rfl)) (by decide) (backOf (W := 0) (own_rm11 l Z a0 hw [] bk0_9_0 u_NANOSECONDS (own_j4_0 (q0_4 ^^^ q0_5) (q0_2 - q0_3)) Tk0_9.heap n0 (Nat.le_trans Z0 sz0_21) F0_30 Qk0_9_9 c213_sta_NANOSECONDS c213_exa_NANOSECONDS c213_fld_NANOSECONDS_scale c213_fld_NANOSECONDS_milliRatio c213_c7_hc10 c213_c7_hc18 c213_c7_hz31) hZ (own_W hw 73 rfl) (own_W hw 2 rfl) (by decide) (by decide)) qk0_29a qk0_29c (g := (mkF m 213 #[.val (.int p0_0), .val (.int p0_1), .val (.long q0_2), .second, .val (.long q0_3), .second, .val (.long q0_4), .second, .val (.long q0_5), .second, .val (.int (p0_0 ^^^ (23130 : Int32))), .val (.int (p0_0 + p0_1)), .val (.long (q0_4 ^^^ q0_5)), .second, .val (.long (q0_2 - q0_3)), .second, .val (.long (q0_2 ^^^ q0_3)), .second, .val (.long (q0_4 - q0_5)), .second, .val (.ref bn0_1), .val (.ref bn0_5), .val (.ref bk0_9_0), .val (.long (q0_4 + q0_5)), .second, .val (.long (own_v0_0 q0_2 q0_3 q0_4 q0_5)), .second, .val (.double (own_j0_2 q0_2 q0_3 q0_4 q0_5)), .second] [(.ref bk0_9_0)])) rfl (by rw [hml]; rfl) (Steps.refl _) (argsL := []) (rest := []) (lenOf own_pd5 rfl) rfl (by show 2 * 0 + _ ≤ _; exact Nat.le_of_eq rfl) (hb hby at_213) (fun _ _ => ⟨rfl, ek0_28, (by decide : 3 + 0 ≤ _), (by decide : 27 + 0 ≤ _)⟩)
  dsimp only [Pt.U, Pt.locs, Pt.cells, Pt.slots] at Xk0_29 lk0_29 yk0_29 zk0_29 stk0_29 hQk0_29
  replace lk0_29 := lk0_29.symm; replace yk0_29 := yk0_29.symm; replace zk0_29 := zk0_29.symm; subst lk0_29 yk0_29 zk0_29
  obtain ⟨rfl, Nk0_29q, ek0_29⟩ := hQk0_29
  have Nk0_29 := Fr.app Nk0_28 Nk0_29q
  obtain ⟨_, _, ⟨Tk0_31, Lk0_31, kk0_31, nk0_31⟩, -, Xk0_31, ⟨Lck0_31, hQk0_31, lk0_31, yk0_31, zk0_31⟩, stk0_31⟩ := Jvm.LawKit.callS Xk0_29 hx (y := (⟨"java/lang/Math", "max", "(JJ)J"⟩ : MethodName)) hown (mvT hZ (own_W hw 86 rfl)) (mvT hZ (own_W hw 34 rfl)) (mvT hZ (own_W hw 35 rfl)) (mvT hZ (own_W hw 36 rfl)) (by decide) (backOf (W := 2) (own_rm4 l Z a0 hw [] (q0_4 ^^^ q0_5) (q0_2 - q0_3) Tk0_9.heap n0 (Nat.le_trans Z0 sz0_21)) hZ (own_W hw 36 rfl) (own_W hw 35 rfl) (by decide) (by decide)) (g := (mkF m 220 #[.val (.int p0_0), .val (.int p0_1), .val (.long q0_2), .second, .val (.long q0_3), .second, .val (.long q0_4), .second, .val (.long q0_5), .second, .val (.int (p0_0 ^^^ (23130 : Int32))), .val (.int (p0_0 + p0_1)), .val (.long (q0_4 ^^^ q0_5)), .second, .val (.long (q0_2 - q0_3)), .second, .val (.long (q0_2 ^^^ q0_3)), .second, .val (.long (q0_4 - q0_5)), .second, .val (.ref bn0_1), .val (.ref bn0_5), .val (.ref bk0_9_0), .val (.long (q0_4 + q0_5)), .second, .val (.long (own_v0_0 q0_2 q0_3 q0_4 q0_5)), .second, .val (.double (own_j0_2 q0_2 q0_3 q0_4 q0_5)), .second] [(.long (q0_2 - q0_3)), (.long (q0_4 ^^^ q0_5)), (.long (own_r11_0 (own_j4_0 (q0_4 ^^^ q0_5) (q0_2 - q0_3))))])) rfl (by rw [hml]; rfl) (argsL := [(.long (q0_4 ^^^ q0_5)), (.long (q0_2 - q0_3))]) (rest := [(.long (own_r11_0 (own_j4_0 (q0_4 ^^^ q0_5) (q0_2 - q0_3))))]) (lenOf own_pd0 rfl) rfl (by show 2 * 0 + _ ≤ _; exact Nat.le_of_eq rfl) (hb hby at_220) (fun _ _ => ⟨rfl, ek0_29, (by decide : 3 + 0 ≤ _), (by decide : 27 + 0 ≤ _)⟩)
  dsimp only [Pt.U, Pt.locs, Pt.cells, Pt.slots] at Xk0_31 lk0_31 yk0_31 zk0_31 stk0_31 hQk0_31
  replace lk0_31 := lk0_31.symm; replace yk0_31 := yk0_31.symm; replace zk0_31 := zk0_31.symm; subst lk0_31 yk0_31 zk0_31
  obtain ⟨rfl, Nk0_31q, ek0_31⟩ := hQk0_31
  have Nk0_31 := Fr.app Nk0_29 Nk0_31q
  obtain ⟨cqk0_32, kqk0_32, qk0_32a, qk0_32b, qk0_32c⟩ := isOf hZ ek0_31 Qk0_9_0
  obtain ⟨_, _, ⟨Tk0_32, Lk0_32, kk0_32, nk0_32⟩, -, Xk0_32, ⟨Lck0_32, hQk0_32, lk0_32, yk0_32, zk0_32⟩, stk0_32⟩ := Xk0_31.virtualBack hx (y := (⟨"com/example/ostia/ostia/PoolStatus", "averageWaitMillis", "()D"⟩ : MethodName)) (z := (⟨"com/example/ostia/ostia/PoolStatus", "averageWaitMillis", "()D"⟩ : MethodName)) hown (mvT hZ (own_W hw 88 rfl)) (mvT hZ (own_W hw 89 rfl)) (notFace_of_selects (args := #[]) (mvT hZ (own_W hw 91 rfl))) (mvT hZ (own_W hw 91 rfl)) (mvT hZ (own_W hw 90 rfl)) (by decide) (backOf (W := 0) (own_rm13 l Z a0 hw [] bk0_9_0 (q0_4 + q0_5) ((q0_2 ^^^ q0_3) + (q0_4 - q0_5)) Tk0_9.heap n0 (Nat.le_trans Z0 sz0_21) Qk0_9_6 Qk0_9_8 c233_nn19 c233_nn25) hZ (own_W hw 92 rfl) (own_W hw 2 rfl) (by decide) (by decide)) qk0_32a qk0_32c (g := (mkF m 233 #[.val (.int p0_0), .val (.int p0_1), .val (.long q0_2), .second, .val (.long q0_3), .second, .val (.long q0_4), .second, .val (.long q0_5), .second, .val (.int (p0_0 ^^^ (23130 : Int32))), .val (.int (p0_0 + p0_1)), .val (.long (q0_4 ^^^ q0_5)), .second, .val (.long (q0_2 - q0_3)), .second, .val (.long (q0_2 ^^^ q0_3)), .second, .val (.long (q0_4 - q0_5)), .second, .val (.ref bn0_1), .val (.ref bn0_5), .val (.ref bk0_9_0), .val (.long (q0_4 + q0_5)), .second, .val (.long (own_v0_0 q0_2 q0_3 q0_4 q0_5)), .second, .val (.double (own_j0_2 q0_2 q0_3 q0_4 q0_5)), .second] [(.ref bk0_9_0)])) rfl (by rw [hml]; rfl) (Steps.refl _) (argsL := []) (rest := []) (lenOf own_pd6 rfl) rfl (by show 2 * 0 + _ ≤ _; exact Nat.le_of_eq rfl) (hb hby at_233) (fun _ _ => ⟨rfl, ek0_31, (by decide : 3 + 0 ≤ _), (by decide : 27 + 0 ≤ _)⟩)
  dsimp only [Pt.U, Pt.locs, Pt.cells, Pt.slots] at Xk0_32 lk0_32 yk0_32 zk0_32 stk0_32 hQk0_32
  replace lk0_32 := lk0_32.symm; replace yk0_32 := yk0_32.symm; replace zk0_32 := zk0_32.symm; subst lk0_32 yk0_32 zk0_32
  obtain ⟨rfl, Nk0_32q, ek0_32⟩ := hQk0_32
  have Nk0_32 := Fr.app Nk0_31 Nk0_32q
  obtain ⟨fs, hr, hrun, hended, hW, hsame⟩ := Xk0_32.leave (v := some (.int (1 : Int32))) (fun h => by rw [Bd.returns] at h; cases h)
  refine ⟨_, _, pre0 _ (?_), hrun, hended, _, _, rfl, ?_, ⟨_, rfl⟩, hW, hsame.mono (by decide) (by decide)⟩
  · show Steps p.tables e below (s₁.setTop (mkF m 0 #[.val (.int p0_0), .val (.int p0_1), .val (.long q0_2), .second, .val (.long q0_3), .second, .val (.long q0_4), .second, .val (.long q0_5), .second, .unset, .unset, .unset, .unset, .unset, .unset, .unset, .unset, .unset, .unset, .unset, .unset, .unset, .unset, .unset, .unset, .unset, .unset, .unset] [])) _
    refine XS.iloadN X0.here hx rfl (hb hby at_0) rfl ?_
    refine XS.sipush X0.here hx rfl (hb hby at_1) ?_
    refine XT.ixor X0.here hx rfl (hb hby at_4) rfl ?_
    refine XS.istore X0.here hx rfl (hb hby at_5) rfl (l' := #[.val (.int p0_0), .val (.int p0_1), .val (.long q0_2), .second, .val (.long q0_3), .second, .val (.long q0_4), .second, .val (.long q0_5), .second, .val (.int (p0_0 ^^^ (23130 : Int32))), .unset, .unset, .unset, .unset, .unset, .unset, .unset, .unset, .unset, .unset, .unset, .unset, .unset, .unset, .unset, .unset, .unset, .unset]) rfl ?_
    refine XS.iloadN X0.here hx rfl (hb hby at_7) rfl ?_
    refine XS.iloadN X0.here hx rfl (hb hby at_8) rfl ?_
    refine XS.iadd X0.here hx rfl (hb hby at_9) rfl ?_
    refine XS.istore X0.here hx rfl (hb hby at_10) rfl (l' := #[.val (.int p0_0), .val (.int p0_1), .val (.long q0_2), .second, .val (.long q0_3), .second, .val (.long q0_4), .second, .val (.long q0_5), .second, .val (.int (p0_0 ^^^ (23130 : Int32))), .val (.int (p0_0 + p0_1)), .unset, .unset, .unset, .unset, .unset, .unset, .unset, .unset, .unset, .unset, .unset, .unset, .unset, .unset, .unset, .unset, .unset]) rfl ?_
    refine XT.lload X0.here hx rfl (hb hby at_12) rfl ?_
    refine XT.lload X0.here hx rfl (hb hby at_14) rfl ?_
    refine XT.lxor X0.here hx rfl (hb hby at_16) rfl ?_
    refine XT.lstore X0.here hx rfl (hb hby at_17) rfl (l' := #[.val (.int p0_0), .val (.int p0_1), .val (.long q0_2), .second, .val (.long q0_3), .second, .val (.long q0_4), .second, .val (.long q0_5), .second, .val (.int (p0_0 ^^^ (23130 : Int32))), .val (.int (p0_0 + p0_1)), .val (.long (q0_4 ^^^ q0_5)), .second, .unset, .unset, .unset, .unset, .unset, .unset, .unset, .unset, .unset, .unset, .unset, .unset, .unset, .unset, .unset]) rfl ?_
    refine XT.lloadN X0.here hx rfl (hb hby at_19) rfl ?_
    refine XT.lload X0.here hx rfl (hb hby at_20) rfl ?_
    refine XT.lsub X0.here hx rfl (hb hby at_22) rfl ?_
    refine XT.lstore X0.here hx rfl (hb hby at_23) rfl (l' := #[.val (.int p0_0), .val (.int p0_1), .val (.long q0_2), .second, .val (.long q0_3), .second, .val (.long q0_4), .second, .val (.long q0_5), .second, .val (.int (p0_0 ^^^ (23130 : Int32))), .val (.int (p0_0 + p0_1)), .val (.long (q0_4 ^^^ q0_5)), .second, .val (.long (q0_2 - q0_3)), .second, .unset, .unset, .unset, .unset, .unset, .unset, .unset, .unset, .unset, .unset, .unset, .unset, .unset]) rfl ?_
    refine XT.lloadN X0.here hx rfl (hb hby at_25) rfl ?_
    refine XT.lload X0.here hx rfl (hb hby at_26) rfl ?_
    refine XT.lxor X0.here hx rfl (hb hby at_28) rfl ?_
    refine XT.lstore X0.here hx rfl (hb hby at_29) rfl (l' := #[.val (.int p0_0), .val (.int p0_1), .val (.long q0_2), .second, .val (.long q0_3), .second, .val (.long q0_4), .second, .val (.long q0_5), .second, .val (.int (p0_0 ^^^ (23130 : Int32))), .val (.int (p0_0 + p0_1)), .val (.long (q0_4 ^^^ q0_5)), .second, .val (.long (q0_2 - q0_3)), .second, .val (.long (q0_2 ^^^ q0_3)), .second, .unset, .unset, .unset, .unset, .unset, .unset, .unset, .unset, .unset, .unset, .unset]) rfl ?_
    refine XT.lload X0.here hx rfl (hb hby at_31) rfl ?_
    refine XT.lload X0.here hx rfl (hb hby at_33) rfl ?_
    refine XT.lsub X0.here hx rfl (hb hby at_35) rfl ?_
    refine XT.lstore X0.here hx rfl (hb hby at_36) rfl (l' := #[.val (.int p0_0), .val (.int p0_1), .val (.long q0_2), .second, .val (.long q0_3), .second, .val (.long q0_4), .second, .val (.long q0_5), .second, .val (.int (p0_0 ^^^ (23130 : Int32))), .val (.int (p0_0 + p0_1)), .val (.long (q0_4 ^^^ q0_5)), .second, .val (.long (q0_2 - q0_3)), .second, .val (.long (q0_2 ^^^ q0_3)), .second, .val (.long (q0_4 - q0_5)), .second, .unset, .unset, .unset, .unset, .unset, .unset, .unset, .unset, .unset]) rfl ?_
    refine stn0_1 _ ?_
    show Steps p.tables e below (Tn0_1.setTop (mkF m 41 #[.val (.int p0_0), .val (.int p0_1), .val (.long q0_2), .second, .val (.long q0_3), .second, .val (.long q0_4), .second, .val (.long q0_5), .second, .val (.int (p0_0 ^^^ (23130 : Int32))), .val (.int (p0_0 + p0_1)), .val (.long (q0_4 ^^^ q0_5)), .second, .val (.long (q0_2 - q0_3)), .second, .val (.long (q0_2 ^^^ q0_3)), .second, .val (.long (q0_4 - q0_5)), .second, .unset, .unset, .unset, .unset, .unset, .unset, .unset, .unset, .unset] [(.ref bn0_1)])) _
    refine XS.dup Xn0_1.here hx rfl (hb hby at_41) rfl rfl ?_
    refine XS.iloadN Xn0_1.here hx rfl (hb hby at_42) rfl ?_
    refine XS.iloadN Xn0_1.here hx rfl (hb hby at_43) rfl ?_
    refine XS.iload Xn0_1.here hx rfl (hb hby at_44) rfl ?_
    refine XT.lloadN Xn0_1.here hx rfl (hb hby at_46) rfl ?_
    refine XT.lload Xn0_1.here hx rfl (hb hby at_47) rfl ?_
    refine XT.lload Xn0_1.here hx rfl (hb hby at_49) rfl ?_
    refine XT.lload Xn0_1.here hx rfl (hb hby at_51) rfl ?_
    refine XT.lload Xn0_1.here hx rfl (hb hby at_53) rfl ?_
    refine XT.lload Xn0_1.here hx rfl (hb hby at_55) rfl ?_
    refine stk0_3.trans ?_
    show Steps p.tables e below (Tk0_3.setTop (mkF m 60 #[.val (.int p0_0), .val (.int p0_1), .val (.long q0_2), .second, .val (.long q0_3), .second, .val (.long q0_4), .second, .val (.long q0_5), .second, .val (.int (p0_0 ^^^ (23130 : Int32))), .val (.int (p0_0 + p0_1)), .val (.long (q0_4 ^^^ q0_5)), .second, .val (.long (q0_2 - q0_3)), .second, .val (.long (q0_2 ^^^ q0_3)), .second, .val (.long (q0_4 - q0_5)), .second, .unset, .unset, .unset, .unset, .unset, .unset, .unset, .unset, .unset] [(.ref bn0_1)])) _
    refine XS.astore Xk0_3.here hx rfl (hb hby at_60) rfl rfl (l' := #[.val (.int p0_0), .val (.int p0_1), .val (.long q0_2), .second, .val (.long q0_3), .second, .val (.long q0_4), .second, .val (.long q0_5), .second, .val (.int (p0_0 ^^^ (23130 : Int32))), .val (.int (p0_0 + p0_1)), .val (.long (q0_4 ^^^ q0_5)), .second, .val (.long (q0_2 - q0_3)), .second, .val (.long (q0_2 ^^^ q0_3)), .second, .val (.long (q0_4 - q0_5)), .second, .val (.ref bn0_1), .unset, .unset, .unset, .unset, .unset, .unset, .unset, .unset]) rfl ?_
    refine stn0_5 _ ?_
    show Steps p.tables e below (Tn0_5.setTop (mkF m 65 #[.val (.int p0_0), .val (.int p0_1), .val (.long q0_2), .second, .val (.long q0_3), .second, .val (.long q0_4), .second, .val (.long q0_5), .second, .val (.int (p0_0 ^^^ (23130 : Int32))), .val (.int (p0_0 + p0_1)), .val (.long (q0_4 ^^^ q0_5)), .second, .val (.long (q0_2 - q0_3)), .second, .val (.long (q0_2 ^^^ q0_3)), .second, .val (.long (q0_4 - q0_5)), .second, .val (.ref bn0_1), .unset, .unset, .unset, .unset, .unset, .unset, .unset, .unset] [(.ref bn0_5)])) _
    refine XS.dup Xn0_5.here hx rfl (hb hby at_65) rfl rfl ?_
    refine XS.iloadN Xn0_5.here hx rfl (hb hby at_66) rfl ?_
    refine XS.iloadN Xn0_5.here hx rfl (hb hby at_67) rfl ?_
    refine XS.iconst Xn0_5.here hx rfl (hb hby at_68) ?_
    refine XT.ixor Xn0_5.here hx rfl (hb hby at_69) rfl ?_
    refine XS.iload Xn0_5.here hx rfl (hb hby at_70) rfl ?_
    refine XT.lload Xn0_5.here hx rfl (hb hby at_72) rfl ?_
    refine XT.lload Xn0_5.here hx rfl (hb hby at_74) rfl ?_
    refine XT.lload Xn0_5.here hx rfl (hb hby at_76) rfl ?_
    refine XT.lloadN Xn0_5.here hx rfl (hb hby at_78) rfl ?_
    refine XT.lload Xn0_5.here hx rfl (hb hby at_79) rfl ?_
    refine XT.lload Xn0_5.here hx rfl (hb hby at_81) rfl ?_
    refine stk0_7.trans ?_
    show Steps p.tables e below (Tk0_7.setTop (mkF m 86 #[.val (.int p0_0), .val (.int p0_1), .val (.long q0_2), .second, .val (.long q0_3), .second, .val (.long q0_4), .second, .val (.long q0_5), .second, .val (.int (p0_0 ^^^ (23130 : Int32))), .val (.int (p0_0 + p0_1)), .val (.long (q0_4 ^^^ q0_5)), .second, .val (.long (q0_2 - q0_3)), .second, .val (.long (q0_2 ^^^ q0_3)), .second, .val (.long (q0_4 - q0_5)), .second, .val (.ref bn0_1), .unset, .unset, .unset, .unset, .unset, .unset, .unset, .unset] [(.ref bn0_5)])) _
    refine XS.astore Xk0_7.here hx rfl (hb hby at_86) rfl rfl (l' := #[.val (.int p0_0), .val (.int p0_1), .val (.long q0_2), .second, .val (.long q0_3), .second, .val (.long q0_4), .second, .val (.long q0_5), .second, .val (.int (p0_0 ^^^ (23130 : Int32))), .val (.int (p0_0 + p0_1)), .val (.long (q0_4 ^^^ q0_5)), .second, .val (.long (q0_2 - q0_3)), .second, .val (.long (q0_2 ^^^ q0_3)), .second, .val (.long (q0_4 - q0_5)), .second, .val (.ref bn0_1), .val (.ref bn0_5), .unset, .unset, .unset, .unset, .unset, .unset, .unset]) rfl ?_
    refine XS.aload Xk0_7.here hx rfl (hb hby at_88) rfl rfl ?_
    refine XS.aload Xk0_7.here hx rfl (hb hby at_90) rfl rfl ?_
    refine stk0_9.trans ?_
    show Steps p.tables e below (Tk0_9.setTop (mkF m 95 #[.val (.int p0_0), .val (.int p0_1), .val (.long q0_2), .second, .val (.long q0_3), .second, .val (.long q0_4), .second, .val (.long q0_5), .second, .val (.int (p0_0 ^^^ (23130 : Int32))), .val (.int (p0_0 + p0_1)), .val (.long (q0_4 ^^^ q0_5)), .second, .val (.long (q0_2 - q0_3)), .second, .val (.long (q0_2 ^^^ q0_3)), .second, .val (.long (q0_4 - q0_5)), .second, .val (.ref bn0_1), .val (.ref bn0_5), .unset, .unset, .unset, .unset, .unset, .unset, .unset] [(.ref bk0_9_0)])) _
    refine XS.astore Xk0_9.here hx rfl (hb hby at_95) rfl rfl (l' := #[.val (.int p0_0), .val (.int p0_1), .val (.long q0_2), .second, .val (.long q0_3), .second, .val (.long q0_4), .second, .val (.long q0_5), .second, .val (.int (p0_0 ^^^ (23130 : Int32))), .val (.int (p0_0 + p0_1)), .val (.long (q0_4 ^^^ q0_5)), .second, .val (.long (q0_2 - q0_3)), .second, .val (.long (q0_2 ^^^ q0_3)), .second, .val (.long (q0_4 - q0_5)), .second, .val (.ref bn0_1), .val (.ref bn0_5), .val (.ref bk0_9_0), .unset, .unset, .unset, .unset, .unset, .unset]) rfl ?_
    refine XT.lload Xk0_9.here hx rfl (hb hby at_97) rfl ?_
    refine XT.lload Xk0_9.here hx rfl (hb hby at_99) rfl ?_
    refine XT.ladd Xk0_9.here hx rfl (hb hby at_101) rfl ?_
    refine XT.lstore Xk0_9.here hx rfl (hb hby at_102) rfl (l' := #[.val (.int p0_0), .val (.int p0_1), .val (.long q0_2), .second, .val (.long q0_3), .second, .val (.long q0_4), .second, .val (.long q0_5), .second, .val (.int (p0_0 ^^^ (23130 : Int32))), .val (.int (p0_0 + p0_1)), .val (.long (q0_4 ^^^ q0_5)), .second, .val (.long (q0_2 - q0_3)), .second, .val (.long (q0_2 ^^^ q0_3)), .second, .val (.long (q0_4 - q0_5)), .second, .val (.ref bn0_1), .val (.ref bn0_5), .val (.ref bk0_9_0), .val (.long (q0_4 + q0_5)), .second, .unset, .unset, .unset, .unset]) rfl ?_
    refine XT.lload Xk0_9.here hx rfl (hb hby at_104) rfl ?_
    refine XT.lload Xk0_9.here hx rfl (hb hby at_106) rfl ?_
    refine XT.ladd Xk0_9.here hx rfl (hb hby at_108) rfl ?_
    refine XT.lstore Xk0_9.here hx rfl (hb hby at_109) rfl (l' := #[.val (.int p0_0), .val (.int p0_1), .val (.long q0_2), .second, .val (.long q0_3), .second, .val (.long q0_4), .second, .val (.long q0_5), .second, .val (.int (p0_0 ^^^ (23130 : Int32))), .val (.int (p0_0 + p0_1)), .val (.long (q0_4 ^^^ q0_5)), .second, .val (.long (q0_2 - q0_3)), .second, .val (.long (q0_2 ^^^ q0_3)), .second, .val (.long (q0_4 - q0_5)), .second, .val (.ref bn0_1), .val (.ref bn0_5), .val (.ref bk0_9_0), .val (.long (q0_4 + q0_5)), .second, .val (.long (own_v0_0 q0_2 q0_3 q0_4 q0_5)), .second, .unset, .unset]) rfl ?_
    refine XS.dconst0 Xk0_9.here hx rfl (hb hby at_111) (v := (0 : UInt64)) (by decide +kernel) ?_
    show Steps p.tables e below (Tk0_9.setTop (mkF m 112 #[.val (.int p0_0), .val (.int p0_1), .val (.long q0_2), .second, .val (.long q0_3), .second, .val (.long q0_4), .second, .val (.long q0_5), .second, .val (.int (p0_0 ^^^ (23130 : Int32))), .val (.int (p0_0 + p0_1)), .val (.long (q0_4 ^^^ q0_5)), .second, .val (.long (q0_2 - q0_3)), .second, .val (.long (q0_2 ^^^ q0_3)), .second, .val (.long (q0_4 - q0_5)), .second, .val (.ref bn0_1), .val (.ref bn0_5), .val (.ref bk0_9_0), .val (.long (q0_4 + q0_5)), .second, .val (.long (own_v0_0 q0_2 q0_3 q0_4 q0_5)), .second, .unset, .unset] [(.double (0 : UInt64))])) _
    refine XS.dstore Xk0_9.here hx rfl (hb hby at_112) rfl (l' := #[.val (.int p0_0), .val (.int p0_1), .val (.long q0_2), .second, .val (.long q0_3), .second, .val (.long q0_4), .second, .val (.long q0_5), .second, .val (.int (p0_0 ^^^ (23130 : Int32))), .val (.int (p0_0 + p0_1)), .val (.long (q0_4 ^^^ q0_5)), .second, .val (.long (q0_2 - q0_3)), .second, .val (.long (q0_2 ^^^ q0_3)), .second, .val (.long (q0_4 - q0_5)), .second, .val (.ref bn0_1), .val (.ref bn0_5), .val (.ref bk0_9_0), .val (.long (q0_4 + q0_5)), .second, .val (.long (own_v0_0 q0_2 q0_3 q0_4 q0_5)), .second, .val (.double (0 : UInt64)), .second]) rfl ?_
    refine XT.lload Xk0_9.here hx rfl (hb hby at_114) rfl ?_
    refine XT.lconst Xk0_9.here hx rfl (hb hby at_116) ?_
    refine XT.lcmp Xk0_9.here hx rfl (hb hby at_117) rfl ?_
    show Steps p.tables e below (Tk0_9.setTop (mkF m 118 #[.val (.int p0_0), .val (.int p0_1), .val (.long q0_2), .second, .val (.long q0_3), .second, .val (.long q0_4), .second, .val (.long q0_5), .second, .val (.int (p0_0 ^^^ (23130 : Int32))), .val (.int (p0_0 + p0_1)), .val (.long (q0_4 ^^^ q0_5)), .second, .val (.long (q0_2 - q0_3)), .second, .val (.long (q0_2 ^^^ q0_3)), .second, .val (.long (q0_4 - q0_5)), .second, .val (.ref bn0_1), .val (.ref bn0_5), .val (.ref bk0_9_0), .val (.long (q0_4 + q0_5)), .second, .val (.long (own_v0_0 q0_2 q0_3 q0_4 q0_5)), .second, .val (.double (0 : UInt64)), .second] [(.int (XT.cmpL (q0_4 + q0_5) (0 : Int64)))])) _
    refine stj0_22 _ ?_
    show Steps p.tables e below (Tj0_22.setTop (mkF m 134 #[.val (.int p0_0), .val (.int p0_1), .val (.long q0_2), .second, .val (.long q0_3), .second, .val (.long q0_4), .second, .val (.long q0_5), .second, .val (.int (p0_0 ^^^ (23130 : Int32))), .val (.int (p0_0 + p0_1)), .val (.long (q0_4 ^^^ q0_5)), .second, .val (.long (q0_2 - q0_3)), .second, .val (.long (q0_2 ^^^ q0_3)), .second, .val (.long (q0_4 - q0_5)), .second, .val (.ref bn0_1), .val (.ref bn0_5), .val (.ref bk0_9_0), .val (.long (q0_4 + q0_5)), .second, .val (.long (own_v0_0 q0_2 q0_3 q0_4 q0_5)), .second, .val (.double (own_j0_2 q0_2 q0_3 q0_4 q0_5)), .second] [])) _
    refine XS.aload Xj0_22.here hx rfl (hb hby at_134) rfl rfl ?_
    refine stk0_23.trans ?_
    show Steps p.tables e below (Tk0_23.setTop (mkF m 139 #[.val (.int p0_0), .val (.int p0_1), .val (.long q0_2), .second, .val (.long q0_3), .second, .val (.long q0_4), .second, .val (.long q0_5), .second, .val (.int (p0_0 ^^^ (23130 : Int32))), .val (.int (p0_0 + p0_1)), .val (.long (q0_4 ^^^ q0_5)), .second, .val (.long (q0_2 - q0_3)), .second, .val (.long (q0_2 ^^^ q0_3)), .second, .val (.long (q0_4 - q0_5)), .second, .val (.ref bn0_1), .val (.ref bn0_5), .val (.ref bk0_9_0), .val (.long (q0_4 + q0_5)), .second, .val (.long (own_v0_0 q0_2 q0_3 q0_4 q0_5)), .second, .val (.double (own_j0_2 q0_2 q0_3 q0_4 q0_5)), .second] [(.int (p0_0 + p0_1))])) _
    refine XS.iloadN Xk0_23.here hx rfl (hb hby at_139) rfl ?_
    refine XS.iloadN Xk0_23.here hx rfl (hb hby at_140) rfl ?_
    refine XS.iadd Xk0_23.here hx rfl (hb hby at_141) rfl ?_
    refine XS.icmpNo Xk0_23.here hx rfl (hb hby at_142) rfl (XT.ii_ne_f (by rfl)) ?_
    refine XS.aload Xk0_23.here hx rfl (hb hby at_145) rfl rfl ?_
    refine stk0_24.trans ?_
    show Steps p.tables e below (Tk0_24.setTop (mkF m 150 #[.val (.int p0_0), .val (.int p0_1), .val (.long q0_2), .second, .val (.long q0_3), .second, .val (.long q0_4), .second, .val (.long q0_5), .second, .val (.int (p0_0 ^^^ (23130 : Int32))), .val (.int (p0_0 + p0_1)), .val (.long (q0_4 ^^^ q0_5)), .second, .val (.long (q0_2 - q0_3)), .second, .val (.long (q0_2 ^^^ q0_3)), .second, .val (.long (q0_4 - q0_5)), .second, .val (.ref bn0_1), .val (.ref bn0_5), .val (.ref bk0_9_0), .val (.long (q0_4 + q0_5)), .second, .val (.long (own_v0_0 q0_2 q0_3 q0_4 q0_5)), .second, .val (.double (own_j0_2 q0_2 q0_3 q0_4 q0_5)), .second] [(.int (p0_1 + (p0_0 ^^^ (-1 : Int32))))])) _
    refine XS.iloadN Xk0_24.here hx rfl (hb hby at_150) rfl ?_
    refine XS.iloadN Xk0_24.here hx rfl (hb hby at_151) rfl ?_
    refine XS.iconst Xk0_24.here hx rfl (hb hby at_152) ?_
    refine XT.ixor Xk0_24.here hx rfl (hb hby at_153) rfl ?_
    refine XS.iadd Xk0_24.here hx rfl (hb hby at_154) rfl ?_
    refine XS.icmpNo Xk0_24.here hx rfl (hb hby at_155) rfl (XT.ii_ne_f (by rfl)) ?_
    refine XS.aload Xk0_24.here hx rfl (hb hby at_158) rfl rfl ?_
    refine stk0_25.trans ?_
    show Steps p.tables e below (Tk0_25.setTop (mkF m 163 #[.val (.int p0_0), .val (.int p0_1), .val (.long q0_2), .second, .val (.long q0_3), .second, .val (.long q0_4), .second, .val (.long q0_5), .second, .val (.int (p0_0 ^^^ (23130 : Int32))), .val (.int (p0_0 + p0_1)), .val (.long (q0_4 ^^^ q0_5)), .second, .val (.long (q0_2 - q0_3)), .second, .val (.long (q0_2 ^^^ q0_3)), .second, .val (.long (q0_4 - q0_5)), .second, .val (.ref bn0_1), .val (.ref bn0_5), .val (.ref bk0_9_0), .val (.long (q0_4 + q0_5)), .second, .val (.long (own_v0_0 q0_2 q0_3 q0_4 q0_5)), .second, .val (.double (own_j0_2 q0_2 q0_3 q0_4 q0_5)), .second] [(.int ((p0_0 ^^^ (23130 : Int32)) + (p0_0 + p0_1)))])) _
    refine XS.iload Xk0_25.here hx rfl (hb hby at_163) rfl ?_
    refine XS.iload Xk0_25.here hx rfl (hb hby at_165) rfl ?_
    refine XS.iadd Xk0_25.here hx rfl (hb hby at_167) rfl ?_
    refine XS.icmpNo Xk0_25.here hx rfl (hb hby at_168) rfl (XT.ii_ne_f (by rfl)) ?_
    refine XS.aload Xk0_25.here hx rfl (hb hby at_171) rfl rfl ?_
    refine stk0_26.trans ?_
    show Steps p.tables e below (Tk0_26.setTop (mkF m 176 #[.val (.int p0_0), .val (.int p0_1), .val (.long q0_2), .second, .val (.long q0_3), .second, .val (.long q0_4), .second, .val (.long q0_5), .second, .val (.int (p0_0 ^^^ (23130 : Int32))), .val (.int (p0_0 + p0_1)), .val (.long (q0_4 ^^^ q0_5)), .second, .val (.long (q0_2 - q0_3)), .second, .val (.long (q0_2 ^^^ q0_3)), .second, .val (.long (q0_4 - q0_5)), .second, .val (.ref bn0_1), .val (.ref bn0_5), .val (.ref bk0_9_0), .val (.long (q0_4 + q0_5)), .second, .val (.long (own_v0_0 q0_2 q0_3 q0_4 q0_5)), .second, .val (.double (own_j0_2 q0_2 q0_3 q0_4 q0_5)), .second] [(.long (q0_2 + q0_3))])) _
    refine XT.lloadN Xk0_26.here hx rfl (hb hby at_176) rfl ?_
    refine XT.lload Xk0_26.here hx rfl (hb hby at_177) rfl ?_
    refine XT.ladd Xk0_26.here hx rfl (hb hby at_179) rfl ?_
    refine XT.lcmp Xk0_26.here hx rfl (hb hby at_180) rfl ?_
    show Steps p.tables e below (Tk0_26.setTop (mkF m 181 #[.val (.int p0_0), .val (.int p0_1), .val (.long q0_2), .second, .val (.long q0_3), .second, .val (.long q0_4), .second, .val (.long q0_5), .second, .val (.int (p0_0 ^^^ (23130 : Int32))), .val (.int (p0_0 + p0_1)), .val (.long (q0_4 ^^^ q0_5)), .second, .val (.long (q0_2 - q0_3)), .second, .val (.long (q0_2 ^^^ q0_3)), .second, .val (.long (q0_4 - q0_5)), .second, .val (.ref bn0_1), .val (.ref bn0_5), .val (.ref bk0_9_0), .val (.long (q0_4 + q0_5)), .second, .val (.long (own_v0_0 q0_2 q0_3 q0_4 q0_5)), .second, .val (.double (own_j0_2 q0_2 q0_3 q0_4 q0_5)), .second] [(.int (XT.cmpL (q0_2 + q0_3) (q0_2 + q0_3)))])) _
    refine XS.ifNo Xk0_26.here hx rfl (hb hby at_181) rfl (XT.ll_ne_f (by rfl)) ?_
    refine XS.aload Xk0_26.here hx rfl (hb hby at_184) rfl rfl ?_
    refine stk0_27.trans ?_
    show Steps p.tables e below (Tk0_27.setTop (mkF m 189 #[.val (.int p0_0), .val (.int p0_1), .val (.long q0_2), .second, .val (.long q0_3), .second, .val (.long q0_4), .second, .val (.long q0_5), .second, .val (.int (p0_0 ^^^ (23130 : Int32))), .val (.int (p0_0 + p0_1)), .val (.long (q0_4 ^^^ q0_5)), .second, .val (.long (q0_2 - q0_3)), .second, .val (.long (q0_2 ^^^ q0_3)), .second, .val (.long (q0_4 - q0_5)), .second, .val (.ref bn0_1), .val (.ref bn0_5), .val (.ref bk0_9_0), .val (.long (q0_4 + q0_5)), .second, .val (.long (own_v0_0 q0_2 q0_3 q0_4 q0_5)), .second, .val (.double (own_j0_2 q0_2 q0_3 q0_4 q0_5)), .second] [(.long (q0_3 + q0_4))])) _
    refine XT.lload Xk0_27.here hx rfl (hb hby at_189) rfl ?_
    refine XT.lload Xk0_27.here hx rfl (hb hby at_191) rfl ?_
    refine XT.ladd Xk0_27.here hx rfl (hb hby at_193) rfl ?_
    refine XT.lcmp Xk0_27.here hx rfl (hb hby at_194) rfl ?_
    show Steps p.tables e below (Tk0_27.setTop (mkF m 195 #[.val (.int p0_0), .val (.int p0_1), .val (.long q0_2), .second, .val (.long q0_3), .second, .val (.long q0_4), .second, .val (.long q0_5), .second, .val (.int (p0_0 ^^^ (23130 : Int32))), .val (.int (p0_0 + p0_1)), .val (.long (q0_4 ^^^ q0_5)), .second, .val (.long (q0_2 - q0_3)), .second, .val (.long (q0_2 ^^^ q0_3)), .second, .val (.long (q0_4 - q0_5)), .second, .val (.ref bn0_1), .val (.ref bn0_5), .val (.ref bk0_9_0), .val (.long (q0_4 + q0_5)), .second, .val (.long (own_v0_0 q0_2 q0_3 q0_4 q0_5)), .second, .val (.double (own_j0_2 q0_2 q0_3 q0_4 q0_5)), .second] [(.int (XT.cmpL (q0_3 + q0_4) (q0_3 + q0_4)))])) _
    refine XS.ifNo Xk0_27.here hx rfl (hb hby at_195) rfl (XT.ll_ne_f (by rfl)) ?_
    refine XS.aload Xk0_27.here hx rfl (hb hby at_198) rfl rfl ?_
    refine stk0_28.trans ?_
    show Steps p.tables e below (Tk0_28.setTop (mkF m 203 #[.val (.int p0_0), .val (.int p0_1), .val (.long q0_2), .second, .val (.long q0_3), .second, .val (.long q0_4), .second, .val (.long q0_5), .second, .val (.int (p0_0 ^^^ (23130 : Int32))), .val (.int (p0_0 + p0_1)), .val (.long (q0_4 ^^^ q0_5)), .second, .val (.long (q0_2 - q0_3)), .second, .val (.long (q0_2 ^^^ q0_3)), .second, .val (.long (q0_4 - q0_5)), .second, .val (.ref bn0_1), .val (.ref bn0_5), .val (.ref bk0_9_0), .val (.long (q0_4 + q0_5)), .second, .val (.long (own_v0_0 q0_2 q0_3 q0_4 q0_5)), .second, .val (.double (own_j0_2 q0_2 q0_3 q0_4 q0_5)), .second] [(.long (q0_5 + q0_2))])) _
    refine XT.lload Xk0_28.here hx rfl (hb hby at_203) rfl ?_
    refine XT.lloadN Xk0_28.here hx rfl (hb hby at_205) rfl ?_
    refine XT.ladd Xk0_28.here hx rfl (hb hby at_206) rfl ?_
    refine XT.lcmp Xk0_28.here hx rfl (hb hby at_207) rfl ?_
    show Steps p.tables e below (Tk0_28.setTop (mkF m 208 #[.val (.int p0_0), .val (.int p0_1), .val (.long q0_2), .second, .val (.long q0_3), .second, .val (.long q0_4), .second, .val (.long q0_5), .second, .val (.int (p0_0 ^^^ (23130 : Int32))), .val (.int (p0_0 + p0_1)), .val (.long (q0_4 ^^^ q0_5)), .second, .val (.long (q0_2 - q0_3)), .second, .val (.long (q0_2 ^^^ q0_3)), .second, .val (.long (q0_4 - q0_5)), .second, .val (.ref bn0_1), .val (.ref bn0_5), .val (.ref bk0_9_0), .val (.long (q0_4 + q0_5)), .second, .val (.long (own_v0_0 q0_2 q0_3 q0_4 q0_5)), .second, .val (.double (own_j0_2 q0_2 q0_3 q0_4 q0_5)), .second] [(.int (XT.cmpL (q0_5 + q0_2) (q0_5 + q0_2)))])) _
    refine XS.ifNo Xk0_28.here hx rfl (hb hby at_208) rfl (XT.ll_ne_f (by rfl)) ?_
    refine XS.aload Xk0_28.here hx rfl (hb hby at_211) rfl rfl ?_
    refine stk0_29.trans ?_
    show Steps p.tables e below (Tk0_29.setTop (mkF m 216 #[.val (.int p0_0), .val (.int p0_1), .val (.long q0_2), .second, .val (.long q0_3), .second, .val (.long q0_4), .second, .val (.long q0_5), .second, .val (.int (p0_0 ^^^ (23130 : Int32))), .val (.int (p0_0 + p0_1)), .val (.long (q0_4 ^^^ q0_5)), .second, .val (.long (q0_2 - q0_3)), .second, .val (.long (q0_2 ^^^ q0_3)), .second, .val (.long (q0_4 - q0_5)), .second, .val (.ref bn0_1), .val (.ref bn0_5), .val (.ref bk0_9_0), .val (.long (q0_4 + q0_5)), .second, .val (.long (own_v0_0 q0_2 q0_3 q0_4 q0_5)), .second, .val (.double (own_j0_2 q0_2 q0_3 q0_4 q0_5)), .second] [(.long (own_r11_0 (own_j4_0 (q0_4 ^^^ q0_5) (q0_2 - q0_3))))])) _
    refine XT.lload Xk0_29.here hx rfl (hb hby at_216) rfl ?_
    refine XT.lload Xk0_29.here hx rfl (hb hby at_218) rfl ?_
    refine stk0_31 _ ?_
    show Steps p.tables e below (Tk0_31.setTop (mkF m 223 #[.val (.int p0_0), .val (.int p0_1), .val (.long q0_2), .second, .val (.long q0_3), .second, .val (.long q0_4), .second, .val (.long q0_5), .second, .val (.int (p0_0 ^^^ (23130 : Int32))), .val (.int (p0_0 + p0_1)), .val (.long (q0_4 ^^^ q0_5)), .second, .val (.long (q0_2 - q0_3)), .second, .val (.long (q0_2 ^^^ q0_3)), .second, .val (.long (q0_4 - q0_5)), .second, .val (.ref bn0_1), .val (.ref bn0_5), .val (.ref bk0_9_0), .val (.long (q0_4 + q0_5)), .second, .val (.long (own_v0_0 q0_2 q0_3 q0_4 q0_5)), .second, .val (.double (own_j0_2 q0_2 q0_3 q0_4 q0_5)), .second] [(.long (own_j4_0 (q0_4 ^^^ q0_5) (q0_2 - q0_3))), (.long (own_r11_0 (own_j4_0 (q0_4 ^^^ q0_5) (q0_2 - q0_3))))])) _
    refine Xk0_31.ldc2Long hx hown (mvT hZ (own_W hw 87 rfl)) (g := (mkF m 223 #[.val (.int p0_0), .val (.int p0_1), .val (.long q0_2), .second, .val (.long q0_3), .second, .val (.long q0_4), .second, .val (.long q0_5), .second, .val (.int (p0_0 ^^^ (23130 : Int32))), .val (.int (p0_0 + p0_1)), .val (.long (q0_4 ^^^ q0_5)), .second, .val (.long (q0_2 - q0_3)), .second, .val (.long (q0_2 ^^^ q0_3)), .second, .val (.long (q0_4 - q0_5)), .second, .val (.ref bn0_1), .val (.ref bn0_5), .val (.ref bk0_9_0), .val (.long (q0_4 + q0_5)), .second, .val (.long (own_v0_0 q0_2 q0_3 q0_4 q0_5)), .second, .val (.double (own_j0_2 q0_2 q0_3 q0_4 q0_5)), .second] [(.long (own_j4_0 (q0_4 ^^^ q0_5) (q0_2 - q0_3))), (.long (own_r11_0 (own_j4_0 (q0_4 ^^^ q0_5) (q0_2 - q0_3))))])) rfl (hb hby at_223) _ ?_
    show Steps p.tables e below (Tk0_31.setTop (mkF m 226 #[.val (.int p0_0), .val (.int p0_1), .val (.long q0_2), .second, .val (.long q0_3), .second, .val (.long q0_4), .second, .val (.long q0_5), .second, .val (.int (p0_0 ^^^ (23130 : Int32))), .val (.int (p0_0 + p0_1)), .val (.long (q0_4 ^^^ q0_5)), .second, .val (.long (q0_2 - q0_3)), .second, .val (.long (q0_2 ^^^ q0_3)), .second, .val (.long (q0_4 - q0_5)), .second, .val (.ref bn0_1), .val (.ref bn0_5), .val (.ref bk0_9_0), .val (.long (q0_4 + q0_5)), .second, .val (.long (own_v0_0 q0_2 q0_3 q0_4 q0_5)), .second, .val (.double (own_j0_2 q0_2 q0_3 q0_4 q0_5)), .second] [(.long (1000000 : Int64)), (.long (own_j4_0 (q0_4 ^^^ q0_5) (q0_2 - q0_3))), (.long (own_r11_0 (own_j4_0 (q0_4 ^^^ q0_5) (q0_2 - q0_3))))])) _
    refine XT.ldiv Xk0_31.here hx rfl (hb hby at_226) rfl (by decide) ?_
    refine XT.lcmp Xk0_31.here hx rfl (hb hby at_227) rfl ?_
    show Steps p.tables e below (Tk0_31.setTop (mkF m 228 #[.val (.int p0_0), .val (.int p0_1), .val (.long q0_2), .second, .val (.long q0_3), .second, .val (.long q0_4), .second, .val (.long q0_5), .second, .val (.int (p0_0 ^^^ (23130 : Int32))), .val (.int (p0_0 + p0_1)), .val (.long (q0_4 ^^^ q0_5)), .second, .val (.long (q0_2 - q0_3)), .second, .val (.long (q0_2 ^^^ q0_3)), .second, .val (.long (q0_4 - q0_5)), .second, .val (.ref bn0_1), .val (.ref bn0_5), .val (.ref bk0_9_0), .val (.long (q0_4 + q0_5)), .second, .val (.long (own_v0_0 q0_2 q0_3 q0_4 q0_5)), .second, .val (.double (own_j0_2 q0_2 q0_3 q0_4 q0_5)), .second] [(.int (XT.cmpL (own_r11_0 (own_j4_0 (q0_4 ^^^ q0_5) (q0_2 - q0_3))) ((own_j4_0 (q0_4 ^^^ q0_5) (q0_2 - q0_3)) / (1000000 : Int64))))])) _
    refine XS.ifNo Xk0_31.here hx rfl (hb hby at_228) rfl (XT.ll_ne_f hc228) ?_
    refine XS.aload Xk0_31.here hx rfl (hb hby at_231) rfl rfl ?_
    refine stk0_32.trans ?_
    show Steps p.tables e below (Tk0_32.setTop (mkF m 236 #[.val (.int p0_0), .val (.int p0_1), .val (.long q0_2), .second, .val (.long q0_3), .second, .val (.long q0_4), .second, .val (.long q0_5), .second, .val (.int (p0_0 ^^^ (23130 : Int32))), .val (.int (p0_0 + p0_1)), .val (.long (q0_4 ^^^ q0_5)), .second, .val (.long (q0_2 - q0_3)), .second, .val (.long (q0_2 ^^^ q0_3)), .second, .val (.long (q0_4 - q0_5)), .second, .val (.ref bn0_1), .val (.ref bn0_5), .val (.ref bk0_9_0), .val (.long (q0_4 + q0_5)), .second, .val (.long (own_v0_0 q0_2 q0_3 q0_4 q0_5)), .second, .val (.double (own_j0_2 q0_2 q0_3 q0_4 q0_5)), .second] [(.double (own_r13_2 (q0_4 + q0_5) ((q0_2 ^^^ q0_3) + (q0_4 - q0_5))))])) _
    refine XS.dload Xk0_32.here hx rfl (hb hby at_236) rfl ?_
    refine XS.dcmpS Xk0_32.here hx rfl (hb hby at_238) rfl rfl ?_
    refine XS.ifNo Xk0_32.here hx rfl (hb hby at_239) rfl (XT.i0_ne_f hc239) ?_
    refine XS.iconst Xk0_32.here hx rfl (hb hby at_242) ?_
    refine XS.goto Xk0_32.here hx rfl (pc0 := 243) (pc' := 247) rfl (hb hby at_243) (by decide) (by decide) ?_
    show Steps p.tables e below (Tk0_32.setTop (mkF m 247 #[.val (.int p0_0), .val (.int p0_1), .val (.long q0_2), .second, .val (.long q0_3), .second, .val (.long q0_4), .second, .val (.long q0_5), .second, .val (.int (p0_0 ^^^ (23130 : Int32))), .val (.int (p0_0 + p0_1)), .val (.long (q0_4 ^^^ q0_5)), .second, .val (.long (q0_2 - q0_3)), .second, .val (.long (q0_2 ^^^ q0_3)), .second, .val (.long (q0_4 - q0_5)), .second, .val (.ref bn0_1), .val (.ref bn0_5), .val (.ref bk0_9_0), .val (.long (q0_4 + q0_5)), .second, .val (.long (own_v0_0 q0_2 q0_3 q0_4 q0_5)), .second, .val (.double (own_j0_2 q0_2 q0_3 q0_4 q0_5)), .second] [(.int (1 : Int32))])) _
    exact retN Xk0_32 hx (t := .boolean) Bd.returns (by simp) (hb hby at_247) hr
  · show own_Q0 Z p0_0 p0_1 q0_2 q0_3 q0_4 q0_5 u_NANOSECONDS h0 n0 _ Tk0_32.heap _
    rw [ek0_32]
    exact ⟨rfl, Nk0_32⟩
theorem own_k1000 : own_is 1000 (4652007308841189376 : UInt64) := ⟨by rw [FP.Core.fin_bits]; decide, by decide +kernel⟩
theorem own_k1 : own_is 1 (4607182418800017408 : UInt64) := ⟨by rw [FP.Core.fin_bits]; decide, by decide +kernel⟩
theorem own_q (x : Int64) : FP.Core.DFin (FP.ddiv (FP.l2d x) (4652007308841189376 : UInt64)) := by
  have f : FP.Core.DFin (FP.l2d x) := FP.Core.l2d_fin x
  have r := own_div_rnd f own_k1000 (by decide)
  have z := own_is_0
  have z0 : own_zv (0 : UInt64) = 0 := by rw [z.2, Int.zero_mul]
  by_cases h : 0 ≤ own_zv (FP.l2d x)
  · exact own_fin_between r.1 z.1 f (r.2.1 _ z.1.ne_nan (by rw [z0]; omega)) (r.2.2 _ f.ne_nan (by omega))
  · exact own_fin_between r.1 f z.1 (r.2.1 _ f.ne_nan (by omega)) (r.2.2 _ z.1.ne_nan (by rw [z0]; omega))
theorem own_ge1 {c : Int64} (h : (0 : Int64) < c) : own_U ≤ own_zv (FP.l2d c) := by
  have z : (0 : Int64).toInt = 0 := by decide
  rw [Int64.lt_iff_toInt_lt, z] at h
  have e : own_zv (4607182418800017408 : UInt64) = own_U := by rw [own_k1.2, Int.one_mul]
  have hU := own_U_pos
  have k := FP.Core.l2d_zval_ge (n := c) own_k1.1.ne_nan (show own_zv (4607182418800017408 : UInt64) ≤ c.toInt * own_U by
    rw [e]
    have := Int.mul_le_mul_of_nonneg_right (show (1 : Int) ≤ c.toInt by omega) (Int.le_of_lt hU)
    rw [Int.one_mul] at this; exact this)
  rw [← e]; exact k
theorem own_av {c x : Int64} (h : (0 : Int64) < c) : NoNaN64 (FP.ddiv (FP.ddiv (FP.l2d x) (4652007308841189376 : UInt64)) (FP.l2d c)) := by
  have := own_ge1 h; have := own_U_pos
  exact own_rnd_nn (own_ddiv_rnd (own_q x) (FP.Core.l2d_fin c) (by omega))
theorem own_x_nn127 (q0_2 q0_3 q0_4 q0_5 : Int64) : NoNaN64 (FP.ddiv (FP.l2d (own_v0_0 q0_2 q0_3 q0_4 q0_5)) (4652007308841189376 : UInt64)) := own_fin_nn (own_q _)
theorem own_x_nn131 (q0_2 q0_3 q0_4 q0_5 : Int64) : (0 : Int64) < (q0_4 + q0_5) → NoNaN64 (FP.ddiv (FP.ddiv (FP.l2d (own_v0_0 q0_2 q0_3 q0_4 q0_5)) (4652007308841189376 : UInt64)) (FP.l2d (q0_4 + q0_5))) := fun h => own_av h
theorem own_x_c213_c7_hc10 : ¬ ((1000000 : Int64) < (1 : Int64)) := by decide
theorem own_x_c213_c7_hc18 : ¬ ((1 : Int64) = (1000000 : Int64)) := by decide
theorem own_x_c213_c7_hz31 : (1000000 : Int32).toInt64 ≠ 0 := by decide
theorem own_x_hc228 (q0_2 q0_3 q0_4 q0_5 : Int64) : (own_r11_0 (own_j4_0 (q0_4 ^^^ q0_5) (q0_2 - q0_3))) = ((own_j4_0 (q0_4 ^^^ q0_5) (q0_2 - q0_3)) / (1000000 : Int64)) := by
  unfold own_r11_0 own_r12_0
  rw [show (1000000 : Int32).toInt64 = (1000000 : Int64) by decide]
theorem own_x_c233_nn19 (q0_2 q0_3 q0_4 q0_5 : Int64) : NoNaN64 (FP.ddiv (FP.l2d ((q0_2 ^^^ q0_3) + (q0_4 - q0_5))) (4652007308841189376 : UInt64)) := own_fin_nn (own_q _)
theorem own_x_c233_nn25 (q0_2 q0_3 q0_4 q0_5 : Int64) : (0 : Int64) < (q0_4 + q0_5) → NoNaN64 (FP.ddiv (FP.ddiv (FP.l2d ((q0_2 ^^^ q0_3) + (q0_4 - q0_5))) (4652007308841189376 : UInt64)) (FP.l2d (q0_4 + q0_5))) := fun h => own_av h
theorem own_x_hc239 (q0_2 q0_3 q0_4 q0_5 : Int64) : (cmpValue (FP.dcmp (own_r13_2 (q0_4 + q0_5) ((q0_2 ^^^ q0_3) + (q0_4 - q0_5))) (own_j0_2 q0_2 q0_3 q0_4 q0_5)) .l) = (0 : Int32) := by
  have e : own_r13_2 (q0_4 + q0_5) ((q0_2 ^^^ q0_3) + (q0_4 - q0_5)) = own_j0_2 q0_2 q0_3 q0_4 q0_5 := rfl
  have n : FP.Core.val64 (own_j0_2 q0_2 q0_3 q0_4 q0_5) ≠ .nan := by
    unfold own_j0_2
    split
    · rename_i h; exact (FP.Core.notNaN_iff _).mp (noNaN64_no.mp (own_av h))
    · exact own_is_0.1.ne_nan
  rw [e]; exact own_cmp_eq n n rfl _

set_option maxRecDepth 65536 in
set_option maxHeartbeats 40000000 in
theorem comes_1 {Post : Tables → Env → Array Value → State → Outcome → State → Prop} (hpost : ∀ tb e args s v u, (limb_1_1.after args s (.returned v) u = true ∧ limb_1_2.after args s (.returned v) u = true ∧ True) → FrameEnd s (.returned v) u (Jvm.fieldLocs frame_1_writes args s ++ Jvm.arrayLocs frame_1_arrays args s ++ Jvm.staticLocs frame_1_statics s) 16 128 → Post tb e args s (.returned v) u) :
    ArmFor flags0 classFile x code maxLocals ret World_1 tables_1 room_1 Calls_1 rest_1 Pre_1 Post := by
  intro l hfl _ _ p e ha hc hk s m args below hf hA hF happ hP
  obtain ⟨hcalls, hrest, hpre⟩ := hP
  obtain ⟨-, -, -, hnamed, -, -, -, hat⟩ := (Spec.applies_iff hf).mp happ
  obtain ⟨hg, hn⟩ := and_e (Cond.before_iff.mp (show (Jvm.Cond.and given_1 narrow_1).before args s = true from hpre))
  obtain ⟨g1a, g1b⟩ := and_e hg
  obtain ⟨g2a, g2b⟩ := and_e g1b
  obtain ⟨g3a, g3b⟩ := and_e g2b
  obtain ⟨g4a, g4b⟩ := and_e g3b
  obtain ⟨g5a, g5b⟩ := and_e g4b
  obtain ⟨g6a, g6b⟩ := and_e g5b
  obtain ⟨w0, w1, w2, w3, w4, w5, rfl⟩ : ∃ w0 w1 w2 w3 w4 w5 : Value, args = #[w0, w1, w2, w3, w4, w5] := by
    have hs : args.size = 6 := by simpa [Cond.value, given_1] using g1a
    obtain ⟨L⟩ := args
    match L, hs with
    | [w0, w1, w2, w3, w4, w5], _ => exact ⟨w0, w1, w2, w3, w4, w5, rfl⟩
  have hw := fun d (hd : d ∈ tables_1) => atoms_spec (ws := Jvm.Cond.code x code maxLocals ret :: tables_1) hat d (List.mem_cons_of_mem _ hd)
  obtain ⟨i0, ei0⟩ := is_v g2a
  obtain rfl : w0 = (.int i0) := Option.some.inj ei0
  obtain ⟨i1, ei1⟩ := is_v g3a
  obtain rfl : w1 = (.int i1) := Option.some.inj ei1
  obtain ⟨i2, ei2⟩ := isL_v g4a
  obtain rfl : w2 = (.long i2) := Option.some.inj ei2
  obtain ⟨i3, ei3⟩ := isL_v g5a
  obtain rfl : w3 = (.long i3) := Option.some.inj ei3
  obtain ⟨i4, ei4⟩ := isL_v g6a
  obtain rfl : w4 = (.long i4) := Option.some.inj ei4
  obtain ⟨i5, ei5⟩ := isL_v g6b
  obtain rfl : w5 = (.long i5) := Option.some.inj ei5
  obtain ⟨hsets, hown0⟩ := atoms_of _ (rest_1_c_eq ▸ (show rest_1_c.before _ s = true from hrest))
  obtain ⟨u_NANOSECONDS, eu_NANOSECONDS, H_sta_NANOSECONDS, H_exa_NANOSECONDS⟩ := own_stat (hsets _ (List.mem_of_getElem? (i := 2) rfl)) (hsets _ (List.mem_of_getElem? (i := 1) rfl))
  have H_fld_NANOSECONDS_scale := own_statJ eu_NANOSECONDS (hsets _ (List.mem_of_getElem? (i := 5) rfl))
  have H_fld_NANOSECONDS_milliRatio := own_statI eu_NANOSECONDS (hsets _ (List.mem_of_getElem? (i := 9) rfl))
  obtain ⟨n, o, h1, h2, h3, _, L, rfl, ⟨rfl, N⟩, hq⟩ := own_rm0 l s _ hw tables_1 i0 i1 i2 i3 i4 i5 u_NANOSECONDS s.heap s.heap.size (Nat.le_refl _) (Old.start s) (by first | exact own_x_nn127 i0 i1 i2 i3 i4 i5 | exact own_x_nn127 i2 i3 i4 i5) (by first | exact own_x_nn131 i0 i1 i2 i3 i4 i5 | exact own_x_nn131 i2 i3 i4 i5) H_sta_NANOSECONDS H_exa_NANOSECONDS H_fld_NANOSECONDS_scale H_fld_NANOSECONDS_milliRatio (by first | exact own_x_c213_c7_hc10 i0 i1 i2 i3 i4 i5 | exact own_x_c213_c7_hc10 ) (by first | exact own_x_c213_c7_hc18 i0 i1 i2 i3 i4 i5 | exact own_x_c213_c7_hc18 ) (by first | exact own_x_c213_c7_hz31 i0 i1 i2 i3 i4 i5 | exact own_x_c213_c7_hz31 ) (by first | exact own_x_hc228 i0 i1 i2 i3 i4 i5 | exact own_x_hc228 i2 i3 i4 i5) (by first | exact own_x_c233_nn19 i0 i1 i2 i3 i4 i5 | exact own_x_c233_nn19 i2 i3 i4 i5) (by first | exact own_x_c233_nn25 i0 i1 i2 i3 i4 i5 | exact own_x_c233_nn25 i2 i3 i4 i5) (by first | exact own_x_hc239 i0 i1 i2 i3 i4 i5 | exact own_x_hc239 i2 i3 i4 i5) p e ha hc hk s m _ below hf ((Spec.applies_iff_loose hf).mp happ).1 ⟨rfl, State.Warmed39.refl s, rfl⟩ trivial
  refine ⟨n, _, h1, h2, h3, hpost _ _ _ _ _ _ ⟨Cond.after_iff.mpr rfl, Cond.after_iff.mpr (eq_i res_at (Term.int_eval (1)) rfl), trivial⟩ ⟨hq.1, hq.2.1, (hq.2.2.sift fun y hy => Or.inr (N y hy)).mono (by decide) (by decide)⟩⟩
theorem main_1_1 : Claimed_1_1 := comes_1 fun _ _ _ _ _ _ h hF => ⟨h.1, hF⟩
theorem main_1_2 : Claimed_1_2 := comes_1 fun _ _ _ _ _ _ h hF => ⟨h.2.1, hF⟩
end Jvm.Pilot.@@N@@
namespace Jvm.Pilot.@@N@@
open Jvm Jvm.ClassFile Sem Op Lib Jvm.Free Jvm.Stand Jvm.Pilot.@@N@@.Jvm.D
/-! MADE BY PROGRAM (witnessworld.py) out of the Statement's table words and the real class files: 17 classes; the members and pool entries that the words name. The judged class is class 1, her method 1. -/
namespace start1
open Jvm.ClassFile
def u (s : String) : CpInfo := .utf8 (stringToUtf16 s)
/-- a pool by its gaps: so many unusable entries, then the entry; so many at the end -/
def gap : Nat → List CpInfo → List CpInfo
  | 0, r => r
  | n + 1, r => .unusable :: gap n r
def poolList (es : List (Nat × CpInfo)) (last : Nat) : List CpInfo := es.foldr (fun e r => gap e.1 (e.2 :: r)) (gap last [])
def pool (es : List (Nat × CpInfo)) (last : Nat) : Array CpInfo := ⟨poolList es last⟩
def fileOf (pool : Array CpInfo) (this : Nat) (attrs : Array Attribute := #[]) (ms : Array MethodInfo := #[]) (fl : Nat := 33) (sup : Nat := 0) (ifs : Array Nat := #[]) (fds : Array FieldInfo := #[]) : ClassFile where
  minorVersion := 0
  majorVersion := 65
  constantPool := pool
  accessFlags := fl
  thisClass := this
  superClass := sup
  interfaces := ifs
  fields := fds
  methods := ms
  attributes := attrs
def plain (name : String) (sup : Option ClassId) : Class where
  name := name
  kind := .ordinary
  loader := none
  accessFlags := 33
  super := sup
  interfaces := #[]
  cf := none
  fields := #[]
  methods := #[]
  instanceTypes := #[]
  staticTypes := #[]
  resolved := #[]
  callSites := []
  init := .initialized
  statics := none
  mirror := none

def pool0 : Array CpInfo := pool [(5, u "<init>"), (0, u "()V"), (1, .class_ 10), (1, u "java/lang/Object")] 113

def k0c0 : Code := { maxStack := 0, maxLocals := 1, code := object_method_1_code, exceptionTable := #[], attributes := #[] }
def k0m0 : Method := { name := "<init>", desc := "()V", sig := { parameters := [], returnType := none }, accessFlags := 1, code := some k0c0 }
/-- java/lang/Object -/
def k0 : Class := { plain "java/lang/Object" none with
  accessFlags := 33
  interfaces := #[]
  cf := some (fileOf pool0 8 #[] #[{ accessFlags := 1, nameIndex := 5, descriptorIndex := 6, attributes := #[] }] 33 0 #[] #[])
  fields := #[]
  methods := #[k0m0]
  instanceTypes := #[]
  staticTypes := #[]
  resolved := Array.replicate 124 none
  statics := none }

def pool1 : Array CpInfo := pool [(2, .class_ 4), (1, u "java/lang/Object"), (0, u "<init>"), (0, u "()V"), (0, .class_ 8), (0, u "com/example/ostia/ostia/PoolStatus"), (0, .methodref 7 10), (0, .nameAndType 5 11), (0, u "(IIIJJJJJJ)V"), (0, .methodref 7 13), (0, .nameAndType 14 15), (0, u "plus"), (0, u "(Lcom/example/ostia/ostia/PoolStatus;)Lcom/example/ostia/ostia/PoolStatus;"), (0, .double 4652007308841189376), (1, .methodref 7 19), (0, .nameAndType 20 21), (0, u "inUse"), (0, u "()I"), (0, .methodref 7 23), (0, .nameAndType 24 21), (0, u "idle"), (0, .methodref 7 26), (0, .nameAndType 27 21), (0, u "waiting"), (0, .methodref 7 29), (0, .nameAndType 30 31), (0, u "opened"), (0, u "()J"), (0, .methodref 7 33), (0, .nameAndType 34 31), (0, u "closed"), (0, .methodref 7 36), (0, .nameAndType 37 31), (0, u "timeouts"), (0, .methodref 7 39), (0, .nameAndType 40 31), (0, u "longestWaitMillis"), (0, .methodref 42 43), (0, .class_ 44), (0, .nameAndType 45 46), (0, u "java/lang/Math"), (0, u "max"), (0, u "(JJ)J"), (0, .long 1000000), (1, .methodref 7 50), (0, .nameAndType 51 52), (0, u "averageWaitMillis"), (0, u "()D"), (0, .class_ 54), (0, u "com/example/ostia/ostia/PoolStatusPlusPinLaw"), (2, u "law"), (0, u "(IIJJJJ)Z")] 3

def k1m0 : Method := { name := "<init>", desc := "()V", sig := { parameters := [], returnType := none }, accessFlags := 1, code := none }
def k1c1 : Code := { maxStack := 17, maxLocals := 29, code := code, exceptionTable := #[], attributes := #[] }
def k1m1 : Method := { name := "law", desc := "(IIJJJJ)Z", sig := { parameters := [.int, .int, .long, .long, .long, .long], returnType := some .boolean }, accessFlags := 9, code := some k1c1 }
/-- com/example/ostia/ostia/PoolStatusPlusPinLaw -/
def k1 : Class := { plain "com/example/ostia/ostia/PoolStatusPlusPinLaw" (some 0) with
  accessFlags := 49
  interfaces := #[]
  cf := some (fileOf pool1 53 #[] #[{ accessFlags := 1, nameIndex := 5, descriptorIndex := 6, attributes := #[] }, { accessFlags := 9, nameIndex := 57, descriptorIndex := 58, attributes := #[] }] 49 2 #[] #[])
  fields := #[]
  methods := #[k1m0, k1m1]
  instanceTypes := #[]
  staticTypes := #[]
  resolved := Array.replicate 62 none
  statics := none }

def pool2 : Array CpInfo := pool [(1, .methodref 2 3), (0, .class_ 4), (0, .nameAndType 5 6), (0, u "java/lang/Object"), (0, u "<init>"), (0, u "()V"), (0, .fieldref 8 9), (0, .class_ 10), (0, .nameAndType 11 12), (0, u "com/example/ostia/ostia/PoolStatus"), (0, u "inUse"), (0, u "I"), (0, .fieldref 8 14), (0, .nameAndType 15 12), (0, u "idle"), (0, .fieldref 8 17), (0, .nameAndType 18 12), (0, u "waiting"), (0, .fieldref 8 20), (0, .nameAndType 21 22), (0, u "opened"), (0, u "J"), (0, .fieldref 8 24), (0, .nameAndType 25 22), (0, u "closed"), (0, .fieldref 8 27), (0, .nameAndType 28 22), (0, u "calls"), (0, .fieldref 8 30), (0, .nameAndType 31 22), (0, u "timeouts"), (0, .fieldref 8 33), (0, .nameAndType 34 22), (0, u "totalWaitMicros"), (0, .fieldref 8 36), (0, .nameAndType 37 22), (0, u "longestWaitNanos"), (0, .fieldref 39 40), (0, .class_ 41), (0, .nameAndType 42 43), (0, u "java/util/concurrent/TimeUnit"), (0, u "NANOSECONDS"), (0, u "Ljava/util/concurrent/TimeUnit;"), (0, .methodref 39 45), (0, .nameAndType 46 47), (0, u "toMillis"), (0, u "(J)J"), (0, .double 4652007308841189376), (1, .methodref 51 52), (0, .class_ 53), (0, .nameAndType 54 55), (0, u "java/lang/Math"), (0, u "max"), (0, u "(JJ)J"), (0, .methodref 8 57), (0, .nameAndType 5 58), (0, u "(IIIJJJJJJ)V"), (2, u "longestWaitMillis"), (0, u "()J"), (2, u "averageWaitMillis"), (0, u "()D"), (6, u "()I"), (1, u "plus"), (0, u "(Lcom/example/ostia/ostia/PoolStatus;)Lcom/example/ostia/ostia/PoolStatus;")] 19

def k2c0 : Code := { maxStack := 3, maxLocals := 16, code := prog_14_method_1_code, exceptionTable := #[], attributes := #[] }
def k2m0 : Method := { name := "<init>", desc := "(IIIJJJJJJ)V", sig := { parameters := [.int, .int, .int, .long, .long, .long, .long, .long, .long], returnType := none }, accessFlags := 0, code := some k2c0 }
def k2c1 : Code := { maxStack := 1, maxLocals := 1, code := prog_14_method_2_code, exceptionTable := #[], attributes := #[] }
def k2m1 : Method := { name := "inUse", desc := "()I", sig := { parameters := [], returnType := some .int }, accessFlags := 1, code := some k2c1 }
def k2c2 : Code := { maxStack := 1, maxLocals := 1, code := prog_14_method_3_code, exceptionTable := #[], attributes := #[] }
def k2m2 : Method := { name := "idle", desc := "()I", sig := { parameters := [], returnType := some .int }, accessFlags := 1, code := some k2c2 }
def k2c3 : Code := { maxStack := 1, maxLocals := 1, code := prog_14_method_4_code, exceptionTable := #[], attributes := #[] }
def k2m3 : Method := { name := "waiting", desc := "()I", sig := { parameters := [], returnType := some .int }, accessFlags := 1, code := some k2c3 }
def k2c4 : Code := { maxStack := 2, maxLocals := 1, code := prog_14_method_5_code, exceptionTable := #[], attributes := #[] }
def k2m4 : Method := { name := "opened", desc := "()J", sig := { parameters := [], returnType := some .long }, accessFlags := 1, code := some k2c4 }
def k2c5 : Code := { maxStack := 2, maxLocals := 1, code := prog_14_method_6_code, exceptionTable := #[], attributes := #[] }
def k2m5 : Method := { name := "closed", desc := "()J", sig := { parameters := [], returnType := some .long }, accessFlags := 1, code := some k2c5 }
def k2c6 : Code := { maxStack := 2, maxLocals := 1, code := prog_14_method_7_code, exceptionTable := #[], attributes := #[] }
def k2m6 : Method := { name := "timeouts", desc := "()J", sig := { parameters := [], returnType := some .long }, accessFlags := 1, code := some k2c6 }
def k2c7 : Code := { maxStack := 3, maxLocals := 1, code := prog_14_method_8_code, exceptionTable := #[], attributes := #[] }
def k2m7 : Method := { name := "longestWaitMillis", desc := "()J", sig := { parameters := [], returnType := some .long }, accessFlags := 1, code := some k2c7 }
def k2c8 : Code := { maxStack := 4, maxLocals := 3, code := prog_14_method_9_code, exceptionTable := #[], attributes := #[] }
def k2m8 : Method := { name := "averageWaitMillis", desc := "()D", sig := { parameters := [], returnType := some .double }, accessFlags := 1, code := some k2c8 }
def k2c9 : Code := { maxStack := 19, maxLocals := 2, code := prog_14_method_10_code, exceptionTable := #[], attributes := #[] }
def k2m9 : Method := { name := "plus", desc := "(Lcom/example/ostia/ostia/PoolStatus;)Lcom/example/ostia/ostia/PoolStatus;", sig := { parameters := [(.object "com/example/ostia/ostia/PoolStatus")], returnType := some (.object "com/example/ostia/ostia/PoolStatus") }, accessFlags := 0, code := some k2c9 }
/-- com/example/ostia/ostia/PoolStatus -/
def k2 : Class := { plain "com/example/ostia/ostia/PoolStatus" (some 0) with
  accessFlags := 49
  interfaces := #[]
  cf := some (fileOf pool2 8 #[] #[{ accessFlags := 0, nameIndex := 5, descriptorIndex := 58, attributes := #[] }, { accessFlags := 1, nameIndex := 11, descriptorIndex := 73, attributes := #[] }, { accessFlags := 1, nameIndex := 15, descriptorIndex := 73, attributes := #[] }, { accessFlags := 1, nameIndex := 18, descriptorIndex := 73, attributes := #[] }, { accessFlags := 1, nameIndex := 21, descriptorIndex := 62, attributes := #[] }, { accessFlags := 1, nameIndex := 25, descriptorIndex := 62, attributes := #[] }, { accessFlags := 1, nameIndex := 31, descriptorIndex := 62, attributes := #[] }, { accessFlags := 1, nameIndex := 61, descriptorIndex := 62, attributes := #[] }, { accessFlags := 1, nameIndex := 65, descriptorIndex := 66, attributes := #[] }, { accessFlags := 0, nameIndex := 75, descriptorIndex := 76, attributes := #[] }] 49 2 #[] #[{ accessFlags := 18, nameIndex := 11, descriptorIndex := 12, attributes := #[] }, { accessFlags := 18, nameIndex := 15, descriptorIndex := 12, attributes := #[] }, { accessFlags := 18, nameIndex := 18, descriptorIndex := 12, attributes := #[] }, { accessFlags := 18, nameIndex := 21, descriptorIndex := 22, attributes := #[] }, { accessFlags := 18, nameIndex := 25, descriptorIndex := 22, attributes := #[] }, { accessFlags := 18, nameIndex := 28, descriptorIndex := 22, attributes := #[] }, { accessFlags := 18, nameIndex := 31, descriptorIndex := 22, attributes := #[] }, { accessFlags := 18, nameIndex := 34, descriptorIndex := 22, attributes := #[] }, { accessFlags := 18, nameIndex := 37, descriptorIndex := 22, attributes := #[] }])
  fields := #[{ name := "inUse", type := .int, accessFlags := 18, slot := 0, constantValue := 0 }, { name := "idle", type := .int, accessFlags := 18, slot := 1, constantValue := 0 }, { name := "waiting", type := .int, accessFlags := 18, slot := 2, constantValue := 0 }, { name := "opened", type := .long, accessFlags := 18, slot := 3, constantValue := 0 }, { name := "closed", type := .long, accessFlags := 18, slot := 4, constantValue := 0 }, { name := "calls", type := .long, accessFlags := 18, slot := 5, constantValue := 0 }, { name := "timeouts", type := .long, accessFlags := 18, slot := 6, constantValue := 0 }, { name := "totalWaitMicros", type := .long, accessFlags := 18, slot := 7, constantValue := 0 }, { name := "longestWaitNanos", type := .long, accessFlags := 18, slot := 8, constantValue := 0 }]
  methods := #[k2m0, k2m1, k2m2, k2m3, k2m4, k2m5, k2m6, k2m7, k2m8, k2m9]
  instanceTypes := #[.int, .int, .int, .long, .long, .long, .long, .long, .long]
  staticTypes := #[]
  resolved := Array.replicate 96 none
  statics := none }

def pool3 : Array CpInfo := pool [(1, .class_ 2), (0, u "java/lang/Math"), (1, .class_ 6), (1, u "java/lang/Object"), (0, u "<init>"), (0, u "()V"), (89, .class_ 100), (1, u "java/lang/Math$RandomNumberGeneratorHolder"), (20, u "(JJ)J"), (50, u "negativeZeroFloatBits"), (0, u "J"), (2, u "negativeZeroDoubleBits"), (21, u "max"), (46, u "$assertionsDisabled"), (0, u "Z"), (91, u "twoToTheDoubleScaleDown"), (0, u "D"), (4, u "twoToTheDoubleScaleUp"), (9, u "E"), (3, u "PI"), (2, u "TAU"), (2, u "DEGREES_TO_RADIANS"), (0, u "RADIANS_TO_DEGREES")] 94

def k3m0 : Method := { name := "<init>", desc := "()V", sig := { parameters := [], returnType := none }, accessFlags := 2, code := none }
def k3c1 : Code := { maxStack := 4, maxLocals := 4, code := jdk_29_method_66_code, exceptionTable := #[], attributes := #[] }
def k3m1 : Method := { name := "max", desc := "(JJ)J", sig := { parameters := [.long, .long], returnType := some .long }, accessFlags := 9, code := some k3c1 }
/-- java/lang/Math -/
def k3 : Class := { plain "java/lang/Math" (some 0) with
  accessFlags := 49
  interfaces := #[]
  cf := some (fileOf pool3 1 #[.nestMembers #[98]] #[{ accessFlags := 2, nameIndex := 7, descriptorIndex := 8, attributes := #[] }, { accessFlags := 9, nameIndex := 198, descriptorIndex := 121, attributes := #[] }] 49 4 #[] #[{ accessFlags := 25, nameIndex := 354, descriptorIndex := 339, attributes := #[] }, { accessFlags := 25, nameIndex := 358, descriptorIndex := 339, attributes := #[] }, { accessFlags := 25, nameIndex := 361, descriptorIndex := 339, attributes := #[] }, { accessFlags := 26, nameIndex := 364, descriptorIndex := 339, attributes := #[] }, { accessFlags := 26, nameIndex := 365, descriptorIndex := 339, attributes := #[] }, { accessFlags := 26, nameIndex := 172, descriptorIndex := 173, attributes := #[] }, { accessFlags := 26, nameIndex := 176, descriptorIndex := 173, attributes := #[] }, { accessFlags := 8, nameIndex := 344, descriptorIndex := 339, attributes := #[] }, { accessFlags := 8, nameIndex := 338, descriptorIndex := 339, attributes := #[] }, { accessFlags := 4120, nameIndex := 245, descriptorIndex := 246, attributes := #[] }])
  fields := #[{ name := "E", type := .double, accessFlags := 25, slot := 0, constantValue := 0 }, { name := "PI", type := .double, accessFlags := 25, slot := 1, constantValue := 0 }, { name := "TAU", type := .double, accessFlags := 25, slot := 2, constantValue := 0 }, { name := "DEGREES_TO_RADIANS", type := .double, accessFlags := 26, slot := 3, constantValue := 0 }, { name := "RADIANS_TO_DEGREES", type := .double, accessFlags := 26, slot := 4, constantValue := 0 }, { name := "negativeZeroFloatBits", type := .long, accessFlags := 26, slot := 5, constantValue := 0 }, { name := "negativeZeroDoubleBits", type := .long, accessFlags := 26, slot := 6, constantValue := 0 }, { name := "twoToTheDoubleScaleUp", type := .double, accessFlags := 8, slot := 7, constantValue := 0 }, { name := "twoToTheDoubleScaleDown", type := .double, accessFlags := 8, slot := 8, constantValue := 0 }, { name := "$assertionsDisabled", type := .boolean, accessFlags := 4120, slot := 9, constantValue := 0 }]
  methods := #[k3m0, k3m1]
  instanceTypes := #[]
  staticTypes := #[.double, .double, .double, .double, .double, .long, .long, .double, .double, .boolean]
  resolved := Array.replicate 460 none
  statics := none }

def pool4 : Array CpInfo := pool [(1, .class_ 2), (0, u "java/lang/constant/Constable"), (0, .class_ 4), (0, u "java/lang/Object")] 6

/-- java/lang/constant/Constable -/
def k4 : Class := { plain "java/lang/constant/Constable" (some 0) with
  accessFlags := 1537
  interfaces := #[]
  cf := some (fileOf pool4 1 #[] #[] 1537 3 #[] #[])
  fields := #[]
  methods := #[]
  instanceTypes := #[]
  staticTypes := #[]
  resolved := Array.replicate 11 none
  statics := none }

def pool5 : Array CpInfo := pool [(1, .class_ 2), (0, u "java/lang/Comparable"), (0, .class_ 4), (0, u "java/lang/Object")] 7

/-- java/lang/Comparable -/
def k5 : Class := { plain "java/lang/Comparable" (some 0) with
  accessFlags := 1537
  interfaces := #[]
  cf := some (fileOf pool5 1 #[] #[] 1537 3 #[] #[])
  fields := #[]
  methods := #[]
  instanceTypes := #[]
  staticTypes := #[]
  resolved := Array.replicate 12 none
  statics := none }

def pool6 : Array CpInfo := pool [(1, .class_ 2), (0, u "java/io/Serializable"), (0, .class_ 4), (0, u "java/lang/Object")] 2

/-- java/io/Serializable -/
def k6 : Class := { plain "java/io/Serializable" (some 0) with
  accessFlags := 1537
  interfaces := #[]
  cf := some (fileOf pool6 1 #[] #[] 1537 3 #[] #[])
  fields := #[]
  methods := #[]
  instanceTypes := #[]
  staticTypes := #[]
  resolved := Array.replicate 7 none
  statics := none }

def pool7 : Array CpInfo := pool [(2, .class_ 4), (1, u "java/lang/Enum"), (0, u "name"), (0, u "Ljava/lang/String;"), (2, u "ordinal"), (0, u "I"), (1, .class_ 14), (1, u "java/lang/Object"), (4, u "hash"), (86, .class_ 108), (1, u "java/lang/Enum$EnumDesc"), (2, .class_ 112), (0, u "java/lang/constant/Constable"), (0, .class_ 114), (0, u "java/lang/Comparable"), (0, .class_ 116), (0, u "java/io/Serializable")] 87

/-- java/lang/Enum -/
def k7 : Class := { plain "java/lang/Enum" (some 0) with
  accessFlags := 1057
  interfaces := #[4, 5, 6]
  cf := some (fileOf pool7 2 #[.nestMembers #[106]] #[] 1057 12 #[111, 113, 115] #[{ accessFlags := 18, nameIndex := 5, descriptorIndex := 6, attributes := #[] }, { accessFlags := 18, nameIndex := 9, descriptorIndex := 10, attributes := #[] }, { accessFlags := 2, nameIndex := 19, descriptorIndex := 10, attributes := #[] }])
  fields := #[{ name := "name", type := (.object "java/lang/String"), accessFlags := 18, slot := 0, constantValue := 0 }, { name := "ordinal", type := .int, accessFlags := 18, slot := 1, constantValue := 0 }, { name := "hash", type := .int, accessFlags := 2, slot := 2, constantValue := 0 }]
  methods := #[]
  instanceTypes := #[(.object "java/lang/String"), .int, .int]
  staticTypes := #[]
  resolved := Array.replicate 204 none
  statics := none }

def pool8 : Array CpInfo := pool [(1, .class_ 2), (0, u "java/util/concurrent/TimeUnit"), (2, u "NANOSECONDS"), (0, u "Ljava/util/concurrent/TimeUnit;"), (2, u "MICROSECONDS"), (2, u "MILLISECONDS"), (2, u "SECONDS"), (2, u "MINUTES"), (2, u "HOURS"), (2, u "DAYS"), (2, u "$VALUES"), (0, u "[Ljava/util/concurrent/TimeUnit;"), (6, .class_ 37), (1, u "java/lang/Enum"), (6, .fieldref 1 45), (0, .nameAndType 46 47), (0, u "scale"), (0, u "J"), (6, u "maxNanos"), (4, u "microRatio"), (2, u "maxMicros"), (0, .long 1000000), (1, .fieldref 1 66), (0, .nameAndType 67 68), (0, u "milliRatio"), (0, u "I"), (2, u "maxMillis"), (4, u "secRatio"), (2, u "maxSecs"), (9, u "(J)J"), (5, u "toMillis"), (67, .class_ 165), (1, u "java/util/concurrent/TimeUnit$1"), (46, u "NANO_SCALE"), (3, u "MICRO_SCALE"), (0, u "MILLI_SCALE"), (0, u "SECOND_SCALE"), (0, u "MINUTE_SCALE"), (0, u "HOUR_SCALE"), (0, u "DAY_SCALE")] 61

def k8c0 : Code := { maxStack := 6, maxLocals := 7, code := jdk_2799_method_9_code, exceptionTable := #[], attributes := #[] }
def k8m0 : Method := { name := "toMillis", desc := "(J)J", sig := { parameters := [.long], returnType := some .long }, accessFlags := 1, code := some k8c0 }
/-- java/util/concurrent/TimeUnit -/
def k8 : Class := { plain "java/util/concurrent/TimeUnit" (some 7) with
  accessFlags := 16433
  interfaces := #[]
  cf := some (fileOf pool8 1 #[.nestMembers #[163]] #[{ accessFlags := 1, nameIndex := 95, descriptorIndex := 89, attributes := #[] }] 16433 35 #[] #[{ accessFlags := 16409, nameIndex := 5, descriptorIndex := 6, attributes := #[] }, { accessFlags := 16409, nameIndex := 9, descriptorIndex := 6, attributes := #[] }, { accessFlags := 16409, nameIndex := 12, descriptorIndex := 6, attributes := #[] }, { accessFlags := 16409, nameIndex := 15, descriptorIndex := 6, attributes := #[] }, { accessFlags := 16409, nameIndex := 18, descriptorIndex := 6, attributes := #[] }, { accessFlags := 16409, nameIndex := 21, descriptorIndex := 6, attributes := #[] }, { accessFlags := 16409, nameIndex := 24, descriptorIndex := 6, attributes := #[] }, { accessFlags := 26, nameIndex := 212, descriptorIndex := 47, attributes := #[] }, { accessFlags := 26, nameIndex := 216, descriptorIndex := 47, attributes := #[] }, { accessFlags := 26, nameIndex := 217, descriptorIndex := 47, attributes := #[] }, { accessFlags := 26, nameIndex := 218, descriptorIndex := 47, attributes := #[] }, { accessFlags := 26, nameIndex := 219, descriptorIndex := 47, attributes := #[] }, { accessFlags := 26, nameIndex := 220, descriptorIndex := 47, attributes := #[] }, { accessFlags := 26, nameIndex := 221, descriptorIndex := 47, attributes := #[] }, { accessFlags := 18, nameIndex := 46, descriptorIndex := 47, attributes := #[] }, { accessFlags := 18, nameIndex := 54, descriptorIndex := 47, attributes := #[] }, { accessFlags := 18, nameIndex := 62, descriptorIndex := 47, attributes := #[] }, { accessFlags := 18, nameIndex := 71, descriptorIndex := 47, attributes := #[] }, { accessFlags := 18, nameIndex := 79, descriptorIndex := 47, attributes := #[] }, { accessFlags := 18, nameIndex := 59, descriptorIndex := 47, attributes := #[] }, { accessFlags := 18, nameIndex := 67, descriptorIndex := 68, attributes := #[] }, { accessFlags := 18, nameIndex := 76, descriptorIndex := 68, attributes := #[] }, { accessFlags := 4122, nameIndex := 27, descriptorIndex := 28, attributes := #[] }])
  fields := #[{ name := "NANOSECONDS", type := (.object "java/util/concurrent/TimeUnit"), accessFlags := 16409, slot := 0, constantValue := 0 }, { name := "MICROSECONDS", type := (.object "java/util/concurrent/TimeUnit"), accessFlags := 16409, slot := 1, constantValue := 0 }, { name := "MILLISECONDS", type := (.object "java/util/concurrent/TimeUnit"), accessFlags := 16409, slot := 2, constantValue := 0 }, { name := "SECONDS", type := (.object "java/util/concurrent/TimeUnit"), accessFlags := 16409, slot := 3, constantValue := 0 }, { name := "MINUTES", type := (.object "java/util/concurrent/TimeUnit"), accessFlags := 16409, slot := 4, constantValue := 0 }, { name := "HOURS", type := (.object "java/util/concurrent/TimeUnit"), accessFlags := 16409, slot := 5, constantValue := 0 }, { name := "DAYS", type := (.object "java/util/concurrent/TimeUnit"), accessFlags := 16409, slot := 6, constantValue := 0 }, { name := "NANO_SCALE", type := .long, accessFlags := 26, slot := 7, constantValue := 0 }, { name := "MICRO_SCALE", type := .long, accessFlags := 26, slot := 8, constantValue := 0 }, { name := "MILLI_SCALE", type := .long, accessFlags := 26, slot := 9, constantValue := 0 }, { name := "SECOND_SCALE", type := .long, accessFlags := 26, slot := 10, constantValue := 0 }, { name := "MINUTE_SCALE", type := .long, accessFlags := 26, slot := 11, constantValue := 0 }, { name := "HOUR_SCALE", type := .long, accessFlags := 26, slot := 12, constantValue := 0 }, { name := "DAY_SCALE", type := .long, accessFlags := 26, slot := 13, constantValue := 0 }, { name := "scale", type := .long, accessFlags := 18, slot := 3, constantValue := 0 }, { name := "maxNanos", type := .long, accessFlags := 18, slot := 4, constantValue := 0 }, { name := "maxMicros", type := .long, accessFlags := 18, slot := 5, constantValue := 0 }, { name := "maxMillis", type := .long, accessFlags := 18, slot := 6, constantValue := 0 }, { name := "maxSecs", type := .long, accessFlags := 18, slot := 7, constantValue := 0 }, { name := "microRatio", type := .long, accessFlags := 18, slot := 8, constantValue := 0 }, { name := "milliRatio", type := .int, accessFlags := 18, slot := 9, constantValue := 0 }, { name := "secRatio", type := .int, accessFlags := 18, slot := 10, constantValue := 0 }, { name := "$VALUES", type := (.array (.object "java/util/concurrent/TimeUnit")), accessFlags := 4122, slot := 14, constantValue := 0 }]
  methods := #[k8m0]
  instanceTypes := #[(.object "java/lang/String"), .int, .int, .long, .long, .long, .long, .long, .long, .int, .int]
  staticTypes := #[(.object "java/util/concurrent/TimeUnit"), (.object "java/util/concurrent/TimeUnit"), (.object "java/util/concurrent/TimeUnit"), (.object "java/util/concurrent/TimeUnit"), (.object "java/util/concurrent/TimeUnit"), (.object "java/util/concurrent/TimeUnit"), (.object "java/util/concurrent/TimeUnit"), .long, .long, .long, .long, .long, .long, .long, (.array (.object "java/util/concurrent/TimeUnit"))]
  resolved := Array.replicate 283 none
  statics := some 0 }

def pool9 : Array CpInfo := pool [(2, .class_ 4), (1, u "java/lang/CharSequence"), (42, .class_ 48), (0, u "java/lang/CharSequence$1CodePointIterator"), (10, .class_ 60), (0, u "java/lang/CharSequence$1CharIterator"), (5, .class_ 67), (0, u "java/lang/Object")] 63

/-- java/lang/CharSequence -/
def k9 : Class := { plain "java/lang/CharSequence" (some 0) with
  accessFlags := 1537
  interfaces := #[]
  cf := some (fileOf pool9 2 #[.nestMembers #[47, 59]] #[] 1537 66 #[] #[])
  fields := #[]
  methods := #[]
  instanceTypes := #[]
  staticTypes := #[]
  resolved := Array.replicate 131 none
  statics := none }

def pool10 : Array CpInfo := pool [(1, .class_ 2), (0, u "java/lang/constant/ConstantDesc"), (0, .class_ 4), (0, u "java/lang/Object")] 32

/-- java/lang/constant/ConstantDesc -/
def k10 : Class := { plain "java/lang/constant/ConstantDesc" (some 0) with
  accessFlags := 1537
  interfaces := #[]
  cf := some (fileOf pool10 1 #[] #[] 1537 3 #[] #[])
  fields := #[]
  methods := #[]
  instanceTypes := #[]
  staticTypes := #[]
  resolved := Array.replicate 37 none
  statics := none }

def pool11 : Array CpInfo := pool [(2, .class_ 4), (1, u "java/lang/Object"), (0, u "<init>"), (0, u "()V"), (3, .class_ 12), (1, u "java/lang/String"), (0, u "value"), (0, u "[B"), (2, u "coder"), (0, u "B"), (2, u "hash"), (0, u "I"), (2, u "hashIsZero"), (0, u "Z"), (13, u "COMPACT_STRINGS"), (534, .class_ 576), (0, u "java/lang/CharSequence"), (22, u "CASE_INSENSITIVE_ORDER"), (0, u "Ljava/util/Comparator;"), (500, u "serialPersistentFields"), (0, u "[Ljava/io/ObjectStreamField;"), (0, .class_ 1104), (0, u "java/lang/String$CaseInsensitiveComparator"), (1, .class_ 1107), (0, u "java/io/Serializable"), (0, .class_ 1109), (0, u "java/lang/Comparable"), (0, .class_ 1111), (0, u "java/lang/constant/Constable"), (0, .class_ 1113), (0, u "java/lang/constant/ConstantDesc"), (2, u "serialVersionUID"), (0, u "J"), (3, u "REPL"), (0, u "C"), (2, u "LATIN1"), (1, u "UTF16")] 323

def k11m0 : Method := { name := "<init>", desc := "()V", sig := { parameters := [], returnType := none }, accessFlags := 1, code := none }
/-- java/lang/String -/
def k11 : Class := { plain "java/lang/String" (some 0) with
  accessFlags := 49
  interfaces := #[6, 5, 9, 4, 10]
  cf := some (fileOf pool11 10 #[.nestMembers #[1103]] #[{ accessFlags := 1, nameIndex := 5, descriptorIndex := 6, attributes := #[] }] 49 2 #[1106, 1108, 575, 1110, 1112] #[{ accessFlags := 18, nameIndex := 13, descriptorIndex := 14, attributes := #[] }, { accessFlags := 18, nameIndex := 17, descriptorIndex := 18, attributes := #[] }, { accessFlags := 2, nameIndex := 21, descriptorIndex := 22, attributes := #[] }, { accessFlags := 2, nameIndex := 25, descriptorIndex := 26, attributes := #[] }, { accessFlags := 26, nameIndex := 1116, descriptorIndex := 1117, attributes := #[] }, { accessFlags := 24, nameIndex := 40, descriptorIndex := 26, attributes := #[] }, { accessFlags := 26, nameIndex := 1101, descriptorIndex := 1102, attributes := #[] }, { accessFlags := 26, nameIndex := 1121, descriptorIndex := 1122, attributes := #[] }, { accessFlags := 25, nameIndex := 599, descriptorIndex := 600, attributes := #[] }, { accessFlags := 24, nameIndex := 1125, descriptorIndex := 18, attributes := #[] }, { accessFlags := 24, nameIndex := 1127, descriptorIndex := 18, attributes := #[] }])
  fields := #[{ name := "value", type := (.array .byte), accessFlags := 18, slot := 0, constantValue := 0 }, { name := "coder", type := .byte, accessFlags := 18, slot := 1, constantValue := 0 }, { name := "hash", type := .int, accessFlags := 2, slot := 2, constantValue := 0 }, { name := "hashIsZero", type := .boolean, accessFlags := 2, slot := 3, constantValue := 0 }, { name := "serialVersionUID", type := .long, accessFlags := 26, slot := 0, constantValue := 0 }, { name := "COMPACT_STRINGS", type := .boolean, accessFlags := 24, slot := 1, constantValue := 0 }, { name := "serialPersistentFields", type := (.array (.object "java/io/ObjectStreamField")), accessFlags := 26, slot := 2, constantValue := 0 }, { name := "REPL", type := .char, accessFlags := 26, slot := 3, constantValue := 0 }, { name := "CASE_INSENSITIVE_ORDER", type := (.object "java/util/Comparator"), accessFlags := 25, slot := 4, constantValue := 0 }, { name := "LATIN1", type := .byte, accessFlags := 24, slot := 5, constantValue := 0 }, { name := "UTF16", type := .byte, accessFlags := 24, slot := 6, constantValue := 0 }]
  methods := #[k11m0]
  instanceTypes := #[(.array .byte), .byte, .int, .boolean]
  staticTypes := #[.long, .boolean, (.array (.object "java/io/ObjectStreamField")), .char, (.object "java/util/Comparator"), .byte, .byte]
  resolved := Array.replicate 1451 none
  statics := none }

def pool12 : Array CpInfo := pool [(1, u "java/lang/Cloneable"), (0, .class_ 1), (0, u "java/lang/Object"), (0, .class_ 3)] 3

/-- java/lang/Cloneable -/
def k12 : Class := { plain "java/lang/Cloneable" (some 0) with
  accessFlags := 1537
  interfaces := #[]
  cf := some (fileOf pool12 2 #[] #[] 1537 4 #[] #[])
  fields := #[]
  methods := #[]
  instanceTypes := #[]
  staticTypes := #[]
  resolved := Array.replicate 8 none
  statics := none }

/-- the primitive byte -/
def k13 : Class := { plain "byte" none with kind := .primitive 'B', accessFlags := 0x411 }
/-- [B -/
def k14 : Class := { plain "[B" (some 0) with kind := .array 13 .byte, interfaces := #[12, 6], accessFlags := 1041 }

/-- the primitive int -/
def k15 : Class := { plain "int" none with kind := .primitive 'I', accessFlags := 0x411 }
/-- [I -/
def k16 : Class := { plain "[I" (some 0) with kind := .array 15 .int, interfaces := #[12, 6], accessFlags := 1041 }

def heap : Heap := #[{ cls := 8, slots := #[.ref 1, .null, .null, .null, .null, .null, .null, .long 0, .long 0, .long 0, .long 0, .long 0, .long 0, .long 0, .null], vm := .statics 8 },
  { cls := 8, slots := #[.ref 2, .int 0, .int 0, .long 1, .long 9223372036854775807, .long 9223372036854775, .long 9223372036854, .long 9223372036, .long 1000, .int 1000000, .int 1000000000], vm := .none },
  { cls := 11, slots := #[.null, .int 0, .int 0, .int 0], vm := .none }]
def classes : Array Class := #[k0, k1, k2, k3, k4, k5, k6, k7, k8, k9, k10, k11, k12, k13, k14, k15, k16]
def interned : List (Array UInt16 × Addr) := []
def slotsUsed : Nat := 30
def theMethod : MethodId := ⟨1, 1⟩
def args0 : Array Value := #[.int 5, .int 6, .long 3, .long 1, .long 7, .long 9]
def aboutOver (below : List Frame) : State where
  vm := { classes := classes, interned := interned.toArray }
  heap := heap
  slotsUsed := slotsUsed
  threads := #[{ frames := .invoking theMethod args0 :: below }]
def below0 : List Frame := [.native { method := ⟨0, 0⟩, args := #[] }]
def about1 : State := aboutOver below0
def p0 : Program := .bare "" "" ""
def e0 : Env := launch0.env 0 0 0
theorem w_frames : about1.frames = Frame.invoking theMethod args0 :: below0 := rfl
set_option maxRecDepth 65536 in
theorem w_args : argsFit about1.vm theMethod args0 = true := by decide +kernel
set_option maxRecDepth 65536 in
theorem w_heap : heapFits about1 = true := by decide +kernel
set_option maxRecDepth 65536 in
theorem w_runnable : about1.curStatus? = some .runnable := by decide +kernel
set_option maxRecDepth 65536 in
theorem w_alone : about1.alone = true := by decide +kernel
set_option maxRecDepth 65536 in
theorem w_named : about1.methodNamed? x = some theMethod := by decide +kernel
set_option maxRecDepth 65536 in
theorem w_hears : about1.hears theMethod below0 = true := by decide +kernel
set_option maxRecDepth 65536 in
theorem w_ripe : about1.ripe theMethod args0 below0 = true := by decide +kernel
theorem w_running : about1.status = .running := rfl
set_option maxRecDepth 65536 in
theorem w_room : about1.hasRoom e0.platform room_1 = true :=
  launch0.hasRoom_least _ room_1 (by decide +kernel) (by decide +kernel) (by decide +kernel) (by decide +kernel) (by decide +kernel) (by decide +kernel)
theorem allAtoms_all (ts : List Jvm.Cond) (a : Array Jvm.Value) (st : Jvm.State) : (allAtoms ts).before a st = ts.all (fun c => c.before a st) := by
  induction ts with
  | nil => rfl
  | cons c t ih =>
    show (Jvm.Cond.and c (allAtoms t)).before a st = _
    rw [Jvm.Cond.before_and, ih, List.all_cons]
def words1 : List Jvm.Cond := Jvm.Cond.code x code maxLocals ret :: tables_1
/-- a 'code' word, met by the world's own term for the bytes: nothing is compared byte by byte -/
theorem code_word {y : MethodName} {bytes : ByteArray} {mx : Nat} {rt : Option FieldType} {a : Array Value} {s : State} {m : MethodId} {meth : Method} {c : Code} (h1 : s.methodNamed? y = some m) (h2 : s.vm.method? m = some meth) (h3 : meth.code = some c) (h4 : c.code = bytes)
    (h5 : (c.maxLocals == mx && c.exceptionTable.isEmpty && decide (c.maxStack ≤ mostOperands) && decide (meth.sig.returnType = rt) && !meth.locks && decide (parseMethodDescriptor y.desc = some meth.sig)) = true) : (Jvm.Cond.code y bytes mx rt).before a s = true := by
  simp only [Bool.and_eq_true, beq_iff_eq, Bool.not_eq_true', decide_eq_true_eq] at h5
  obtain ⟨⟨⟨⟨⟨g1, g2⟩, g3⟩, g4⟩, g5⟩, g6⟩ := h5
  simp [Cond.before, Cond.holds, Cond.value, h1, h2, h3, h4, g1, g2, g3, g4, g5, g6]
def isCode : Jvm.Cond → Bool
  | .code _ _ _ _ => true
  | _ => false
theorem all_split {L : List Jvm.Cond} {P : Jvm.Cond → Bool} (h1 : L.all (fun c => isCode c || P c) = true) (h2 : ∀ c ∈ L.filter isCode, P c = true) : L.all P = true := by
  refine List.all_eq_true.mpr fun c hc => ?_
  have h := List.all_eq_true.mp h1 c hc
  rcases Bool.eq_false_or_eq_true (isCode c) with hi | hi
  · exact h2 c (List.mem_filter.mpr ⟨hc, hi⟩)
  · simpa [hi] using h
set_option maxRecDepth 65536 in
theorem w_c0 : (Jvm.Cond.code x code maxLocals ret).before args0 about1 = true := code_word (m := ⟨1, 1⟩) (meth := k1m1) (c := k1c1) (by decide +kernel) rfl rfl rfl (by decide +kernel)
set_option maxRecDepth 65536 in
theorem w_c1 : (Jvm.Cond.code ({ cls := "com/example/ostia/ostia/PoolStatus", name := "<init>", desc := "(IIIJJJJJJ)V" } : Jvm.MethodName) prog_14_method_1_code (16 : Nat) (Option.none : Option Jvm.ClassFile.FieldType)).before args0 about1 = true := code_word (m := ⟨2, 0⟩) (meth := k2m0) (c := k2c0) (by decide +kernel) rfl rfl rfl (by decide +kernel)
set_option maxRecDepth 65536 in
theorem w_c2 : (Jvm.Cond.code ({ cls := "java/lang/Object", name := "<init>", desc := "()V" } : Jvm.MethodName) object_method_1_code (1 : Nat) (Option.none : Option Jvm.ClassFile.FieldType)).before args0 about1 = true := code_word (m := ⟨0, 0⟩) (meth := k0m0) (c := k0c0) (by decide +kernel) rfl rfl rfl (by decide +kernel)
set_option maxRecDepth 65536 in
theorem w_c3 : (Jvm.Cond.code ({ cls := "com/example/ostia/ostia/PoolStatus", name := "plus", desc := "(Lcom/example/ostia/ostia/PoolStatus;)Lcom/example/ostia/ostia/PoolStatus;" } : Jvm.MethodName) prog_14_method_10_code (2 : Nat) (Option.some (Jvm.ClassFile.FieldType.object "com/example/ostia/ostia/PoolStatus"))).before args0 about1 = true := code_word (m := ⟨2, 9⟩) (meth := k2m9) (c := k2c9) (by decide +kernel) rfl rfl rfl (by decide +kernel)
set_option maxRecDepth 65536 in
theorem w_c4 : (Jvm.Cond.code ({ cls := "java/lang/Math", name := "max", desc := "(JJ)J" } : Jvm.MethodName) jdk_29_method_66_code (4 : Nat) (Option.some Jvm.ClassFile.FieldType.long)).before args0 about1 = true := code_word (m := ⟨3, 1⟩) (meth := k3m1) (c := k3c1) (by decide +kernel) rfl rfl rfl (by decide +kernel)
set_option maxRecDepth 65536 in
theorem w_c5 : (Jvm.Cond.code ({ cls := "com/example/ostia/ostia/PoolStatus", name := "inUse", desc := "()I" } : Jvm.MethodName) prog_14_method_2_code (1 : Nat) (Option.some Jvm.ClassFile.FieldType.int)).before args0 about1 = true := code_word (m := ⟨2, 1⟩) (meth := k2m1) (c := k2c1) (by decide +kernel) rfl rfl rfl (by decide +kernel)
set_option maxRecDepth 65536 in
theorem w_c6 : (Jvm.Cond.code ({ cls := "com/example/ostia/ostia/PoolStatus", name := "idle", desc := "()I" } : Jvm.MethodName) prog_14_method_3_code (1 : Nat) (Option.some Jvm.ClassFile.FieldType.int)).before args0 about1 = true := code_word (m := ⟨2, 2⟩) (meth := k2m2) (c := k2c2) (by decide +kernel) rfl rfl rfl (by decide +kernel)
set_option maxRecDepth 65536 in
theorem w_c7 : (Jvm.Cond.code ({ cls := "com/example/ostia/ostia/PoolStatus", name := "waiting", desc := "()I" } : Jvm.MethodName) prog_14_method_4_code (1 : Nat) (Option.some Jvm.ClassFile.FieldType.int)).before args0 about1 = true := code_word (m := ⟨2, 3⟩) (meth := k2m3) (c := k2c3) (by decide +kernel) rfl rfl rfl (by decide +kernel)
set_option maxRecDepth 65536 in
theorem w_c8 : (Jvm.Cond.code ({ cls := "com/example/ostia/ostia/PoolStatus", name := "opened", desc := "()J" } : Jvm.MethodName) prog_14_method_5_code (1 : Nat) (Option.some Jvm.ClassFile.FieldType.long)).before args0 about1 = true := code_word (m := ⟨2, 4⟩) (meth := k2m4) (c := k2c4) (by decide +kernel) rfl rfl rfl (by decide +kernel)
set_option maxRecDepth 65536 in
theorem w_c9 : (Jvm.Cond.code ({ cls := "com/example/ostia/ostia/PoolStatus", name := "closed", desc := "()J" } : Jvm.MethodName) prog_14_method_6_code (1 : Nat) (Option.some Jvm.ClassFile.FieldType.long)).before args0 about1 = true := code_word (m := ⟨2, 5⟩) (meth := k2m5) (c := k2c5) (by decide +kernel) rfl rfl rfl (by decide +kernel)
set_option maxRecDepth 65536 in
theorem w_c10 : (Jvm.Cond.code ({ cls := "com/example/ostia/ostia/PoolStatus", name := "timeouts", desc := "()J" } : Jvm.MethodName) prog_14_method_7_code (1 : Nat) (Option.some Jvm.ClassFile.FieldType.long)).before args0 about1 = true := code_word (m := ⟨2, 6⟩) (meth := k2m6) (c := k2c6) (by decide +kernel) rfl rfl rfl (by decide +kernel)
set_option maxRecDepth 65536 in
theorem w_c11 : (Jvm.Cond.code ({ cls := "com/example/ostia/ostia/PoolStatus", name := "longestWaitMillis", desc := "()J" } : Jvm.MethodName) prog_14_method_8_code (1 : Nat) (Option.some Jvm.ClassFile.FieldType.long)).before args0 about1 = true := code_word (m := ⟨2, 7⟩) (meth := k2m7) (c := k2c7) (by decide +kernel) rfl rfl rfl (by decide +kernel)
set_option maxRecDepth 65536 in
theorem w_c12 : (Jvm.Cond.code ({ cls := "java/util/concurrent/TimeUnit", name := "toMillis", desc := "(J)J" } : Jvm.MethodName) jdk_2799_method_9_code (7 : Nat) (Option.some Jvm.ClassFile.FieldType.long)).before args0 about1 = true := code_word (m := ⟨8, 0⟩) (meth := k8m0) (c := k8c0) (by decide +kernel) rfl rfl rfl (by decide +kernel)
set_option maxRecDepth 65536 in
theorem w_c13 : (Jvm.Cond.code ({ cls := "com/example/ostia/ostia/PoolStatus", name := "averageWaitMillis", desc := "()D" } : Jvm.MethodName) prog_14_method_9_code (3 : Nat) (Option.some Jvm.ClassFile.FieldType.double)).before args0 about1 = true := code_word (m := ⟨2, 8⟩) (meth := k2m8) (c := k2c8) (by decide +kernel) rfl rfl rfl (by decide +kernel)
def codes1 : List Jvm.Cond := [Jvm.Cond.code x code maxLocals ret, Jvm.Cond.code ({ cls := "com/example/ostia/ostia/PoolStatus", name := "<init>", desc := "(IIIJJJJJJ)V" } : Jvm.MethodName) prog_14_method_1_code (16 : Nat) (Option.none : Option Jvm.ClassFile.FieldType), Jvm.Cond.code ({ cls := "java/lang/Object", name := "<init>", desc := "()V" } : Jvm.MethodName) object_method_1_code (1 : Nat) (Option.none : Option Jvm.ClassFile.FieldType), Jvm.Cond.code ({ cls := "com/example/ostia/ostia/PoolStatus", name := "plus", desc := "(Lcom/example/ostia/ostia/PoolStatus;)Lcom/example/ostia/ostia/PoolStatus;" } : Jvm.MethodName) prog_14_method_10_code (2 : Nat) (Option.some (Jvm.ClassFile.FieldType.object "com/example/ostia/ostia/PoolStatus")), Jvm.Cond.code ({ cls := "java/lang/Math", name := "max", desc := "(JJ)J" } : Jvm.MethodName) jdk_29_method_66_code (4 : Nat) (Option.some Jvm.ClassFile.FieldType.long), Jvm.Cond.code ({ cls := "com/example/ostia/ostia/PoolStatus", name := "inUse", desc := "()I" } : Jvm.MethodName) prog_14_method_2_code (1 : Nat) (Option.some Jvm.ClassFile.FieldType.int), Jvm.Cond.code ({ cls := "com/example/ostia/ostia/PoolStatus", name := "idle", desc := "()I" } : Jvm.MethodName) prog_14_method_3_code (1 : Nat) (Option.some Jvm.ClassFile.FieldType.int), Jvm.Cond.code ({ cls := "com/example/ostia/ostia/PoolStatus", name := "waiting", desc := "()I" } : Jvm.MethodName) prog_14_method_4_code (1 : Nat) (Option.some Jvm.ClassFile.FieldType.int), Jvm.Cond.code ({ cls := "com/example/ostia/ostia/PoolStatus", name := "opened", desc := "()J" } : Jvm.MethodName) prog_14_method_5_code (1 : Nat) (Option.some Jvm.ClassFile.FieldType.long), Jvm.Cond.code ({ cls := "com/example/ostia/ostia/PoolStatus", name := "closed", desc := "()J" } : Jvm.MethodName) prog_14_method_6_code (1 : Nat) (Option.some Jvm.ClassFile.FieldType.long), Jvm.Cond.code ({ cls := "com/example/ostia/ostia/PoolStatus", name := "timeouts", desc := "()J" } : Jvm.MethodName) prog_14_method_7_code (1 : Nat) (Option.some Jvm.ClassFile.FieldType.long), Jvm.Cond.code ({ cls := "com/example/ostia/ostia/PoolStatus", name := "longestWaitMillis", desc := "()J" } : Jvm.MethodName) prog_14_method_8_code (1 : Nat) (Option.some Jvm.ClassFile.FieldType.long), Jvm.Cond.code ({ cls := "java/util/concurrent/TimeUnit", name := "toMillis", desc := "(J)J" } : Jvm.MethodName) jdk_2799_method_9_code (7 : Nat) (Option.some Jvm.ClassFile.FieldType.long), Jvm.Cond.code ({ cls := "com/example/ostia/ostia/PoolStatus", name := "averageWaitMillis", desc := "()D" } : Jvm.MethodName) prog_14_method_9_code (3 : Nat) (Option.some Jvm.ClassFile.FieldType.double)]
set_option maxRecDepth 65536 in
theorem codes_eq : words1.filter isCode = codes1 := rfl
theorem w_codes : ∀ c ∈ words1.filter isCode, c.before args0 about1 = true := by
  rw [codes_eq]
  intro c hc
  simp only [codes1, List.mem_cons, List.not_mem_nil, or_false] at hc
  rcases hc with rfl | rfl | rfl | rfl | rfl | rfl | rfl | rfl | rfl | rfl | rfl | rfl | rfl | rfl
  · exact w_c0
  · exact w_c1
  · exact w_c2
  · exact w_c3
  · exact w_c4
  · exact w_c5
  · exact w_c6
  · exact w_c7
  · exact w_c8
  · exact w_c9
  · exact w_c10
  · exact w_c11
  · exact w_c12
  · exact w_c13
set_option maxRecDepth 65536 in
theorem w_t1 : (words1.take 24).all (fun c => isCode c || c.before args0 about1) = true := by decide +kernel
set_option maxRecDepth 65536 in
theorem w_t2 : ((words1.drop 24).take 24).all (fun c => isCode c || c.before args0 about1) = true := by decide +kernel
set_option maxRecDepth 65536 in
theorem w_t3 : (((words1.drop 24).drop 24).take 24).all (fun c => isCode c || c.before args0 about1) = true := by decide +kernel
set_option maxRecDepth 65536 in
theorem w_t4 : (((words1.drop 24).drop 24).drop 24).all (fun c => isCode c || c.before args0 about1) = true := by decide +kernel
theorem w_tables : (allAtoms (Jvm.Cond.code x code maxLocals ret :: tables_1)).before args0 about1 = true := by
  rw [allAtoms_all]
  show words1.all (fun c => c.before args0 about1) = true
  refine all_split ?_ w_codes
  rw [← List.take_append_drop 24 words1, List.all_append, w_t1, ← List.take_append_drop 24 (words1.drop 24), List.all_append, w_t2, ← List.take_append_drop 24 ((words1.drop 24).drop 24), List.all_append, w_t3, w_t4]
  rfl
set_option maxRecDepth 65536 in
theorem w_rest : rest_1_c.before args0 about1 = true := by decide +kernel
set_option maxRecDepth 65536 in
theorem w_case : (Jvm.Cond.and given_1 narrow_1).before args0 about1 = true := by decide +kernel
theorem w_applies : (headSpec (Jvm.Cond.code x code maxLocals ret :: tables_1) room_1).applies x e0.platform about1 = true :=
  (Spec.applies_iff w_frames).mpr ⟨w_running, w_runnable, w_alone, w_named, w_hears, w_ripe, w_room, w_tables⟩
theorem atStart : AtStart classFile x code maxLocals ret World_1 tables_1 room_1 Calls_1 rest_1 Pre_1 launch0 p0 e0 about1 theMethod args0 below0 :=
  ⟨lists_1, trivial, launch0.admits_env _ _ _, launch0.least_env, fairChoices_fair.cas, fairChoices_fair.clock, w_frames, w_args, w_heap, w_applies, trivial, w_rest, w_case⟩
end start1
theorem witness_1 : WitnessClaimed_1 := ⟨start1.p0, start1.e0, start1.about1, start1.theMethod, start1.args0, start1.below0, start1.atStart⟩
end Jvm.Pilot.@@N@@
