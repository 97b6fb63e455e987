import JvmDerived
import JvmDerived.Pilot.@@N@@Statement
import JvmDerived.Pilot.@@N@@Code
@@BLOCK:NumsL.lean.txt@@
set_option linter.unusedVariables false
set_option linter.unusedSimpArgs false
namespace Jvm.RoadKit
open Sem ClassFile Op Lib Jvm.Stand Jvm.Free Jvm.LawKit
section New
variable {p : Program} {l : Launch} {e : Env} {R : Room} {s : State} {m : MethodId} {args : Array Value} {below : List Frame} {meth : Method} {c : Code} {T : State} {locs : List Loc} {cells slots : Nat}
theorem retI (X : Stand p l e R s m args below meth c T locs cells slots) (hx : p.tables.exec = Jvm.exec) {pc : Nat} {Ls : Array Slot} {z : Int32} {rest : List Value} (hret : meth.sig.returnType = some .int) (hd : decode c.code pc = .ok (.ireturn, 1)) {fs : List Frame}
    (hl : ∀ (f : JFrame) (acts : List Action), f.method = m → f.locked = none → f.entered = [] → (doReturn e (T.setTop f) acts (some (.int z))).1 = T.setFrames fs) : Steps p.tables e below (T.setTop (mkF m pc Ls (.int z :: rest))) (T.setFrames fs) := by
  have hm' : T.vm.method? m = some meth := X.method'
  have hn : narrow .int (.int z) = .int z := rfl
  show Steps p.tables e below (T.setTop { method := m, pc := pc, locals := Ls, stack := _ :: rest, locked := none }) _
  jvm_step X.here [X.here.top, hx, hd, hm', hret, hn]
  first | (intro acts; rw [hl _ acts rfl rfl rfl]) | rw [hl _ _ rfl rfl rfl]
  exact Steps.refl _
theorem own_retD (X : Stand p l e R s m args below meth c T locs cells slots) (hx : p.tables.exec = Jvm.exec) {pc : Nat} {Ls : Array Slot} {z : UInt64} {rest : List Value} (hret : meth.sig.returnType = some .double) (hd : decode c.code pc = .ok (.dreturn, 1)) {fs : List Frame}
    (hl : ∀ (f : JFrame) (acts : List Action), f.method = m → f.locked = none → f.entered = [] → (doReturn e (T.setTop f) acts (some (.double z))).1 = T.setFrames fs) : Steps p.tables e below (T.setTop (mkF m pc Ls (.double z :: rest))) (T.setFrames fs) := by
  have hm' : T.vm.method? m = some meth := X.method'
  have hn : narrow .double (.double z) = .double z := rfl
  show Steps p.tables e below (T.setTop { method := m, pc := pc, locals := Ls, stack := _ :: rest, locked := none }) _
  jvm_step X.here [X.here.top, hx, hd, hm', hret, hn]
  first | (intro acts; rw [hl _ acts rfl rfl rfl]) | rw [hl _ _ rfl rfl rfl]
  exact Steps.refl _
theorem own_mvM {Z s : State} {a0 args : Array Value} {own host : String} {y : MethodName} {index : Nat} (hZ : Z.Warmed39 s.vm) (w : (Cond.methodLinkNest own index y host).before a0 Z = true) : (Cond.methodLinkNest own index y host).before args s = true := (Cond.methodLinkNest_wide hZ w :)
theorem own_selP {Z s : State} {a0 args : Array Value} {y : MethodName} {n : Nat} (hZ : Z.Warmed39 s.vm) (wi : (Cond.instantiable y.cls n).before a0 Z = true) (wp : (Cond.privateMethod y).before a0 Z = true) (wm : (Cond.instanceMethod y).before a0 Z = true) (hy : y.cls ≠ "java/lang/invoke/MethodHandle" ∧ y.cls ≠ "java/lang/invoke/VarHandle") : (Cond.selects y.cls y y).before args s = true := by
  obtain ⟨c, k, hc, hk, -, hflags, -⟩ := Cond.instantiable_spec (mvT (args := args) hZ wi)
  have hitf : k.isInterface = false := by
    cases hi : k.isInterface
    · rfl
    · simp [hi] at hflags
  exact selects_self_of_private hc hk hitf (Cond.privateMethod_at (mvP hZ wp (args := args))) (mvT hZ wm) hy
end New
end Jvm.RoadKit
namespace Jvm.Pilot.@@N@@
open Jvm Jvm.ClassFile Sem Op Lib Jvm.Free Jvm.Stand Jvm.LawKit Jvm.RoadKit Bundle Jvm.Free.Fl Jvm.Pilot.@@N@@.Jvm.D
theorem own_W {a0 : Array Value} {Z : State} (hw : ∀ d ∈ tables_1, d.before a0 Z = true) (i : Nat) {d : Jvm.Cond} (h : tables_1[i]? = some d) : d.before a0 Z = true := hw _ (List.mem_of_getElem? h)

theorem own_pn0 : plainName "com/example/arborway/arborway/sim/WalkRunningCountPinLaw" = true := by first | (simp [plainName, overriddenIn]; done) | decide +kernel
theorem own_d2_0 : decode method_2_code 0 = .ok (.iload_n 0, 1) := by decide +kernel
theorem own_d2_1 : decode method_2_code 1 = .ok (.iload_n 1, 1) := by decide +kernel
theorem own_d2_2 : decode method_2_code 2 = .ok (.ishr, 1) := by decide +kernel
theorem own_d2_3 : decode method_2_code 3 = .ok (.iconst 1, 1) := by decide +kernel
theorem own_d2_4 : decode method_2_code 4 = .ok (.iand, 1) := by decide +kernel
theorem own_d2_5 : decode method_2_code 5 = .ok (.ifCond .eq 7, 3) := by decide +kernel
theorem own_d2_8 : decode method_2_code 8 = .ok (.iconst 1, 1) := by decide +kernel
theorem own_d2_9 : decode method_2_code 9 = .ok (.goto 4, 3) := by decide +kernel
theorem own_d2_12 : decode method_2_code 12 = .ok (.iconst 0, 1) := by decide +kernel
theorem own_d2_13 : decode method_2_code 13 = .ok (.ireturn, 1) := by decide +kernel
def own_j2_0 (p2_0 : Int32) (p2_1 : Int32) : Int32 := if ((p2_0 >>> (p2_1 &&& 31)) &&& (1 : Int32)) = (0 : Int32) then (0 : Int32) else (1 : Int32)
def own_r2_1 (p2_0 : Int32) (p2_1 : Int32) : Int32 := (nar .boolean (own_j2_0 p2_0 p2_1))
theorem own_ef2 (m : MethodId) (p2_0 : Int32) (p2_1 : Int32) : entryFrame m #[(.int p2_0), (.int p2_1)] 2 = mkF m 0 #[.val (.int p2_0), .val (.int p2_1)] [] := by first | (simp [entryFrame, mkF, argsToLocals, Value.category]; done) | rfl
def own_Q2 (Z : State) (p2_0 : Int32) (p2_1 : Int32) (h0 : Heap) (n0 : Nat) (v : Option Value) (h : Heap) (L : List Loc) : Prop := v = some (.int (own_r2_1 p2_0 p2_1)) ∧ Fr n0 L ∧ h = h0
set_option maxRecDepth 65536 in
set_option maxHeartbeats 40000000 in
theorem own_rm2 (l : Launch) (Z : State) (a0 : Array Value) (hw : ∀ d ∈ tables_1, d.before a0 Z = true) (ws : List Jvm.Cond) (p2_0 : Int32) (p2_1 : Int32) (h0 : Heap) (n0 : Nat) (Z0 : n0 ≤ h0.size) :
    MetFree l (⟨"com/example/arborway/arborway/sim/WalkRunningCountPinLaw", "bit", "(II)Z"⟩ : MethodName) (head1 (Jvm.Cond.code (⟨"com/example/arborway/arborway/sim/WalkRunningCountPinLaw", "bit", "(II)Z"⟩ : MethodName) method_2_code 2 (some .boolean) :: ws) ({ frames := 0, cells := 0, slots := 0, locals := 0 } : Room)) (fun a U => a = #[(.int p2_0), (.int p2_1)] ∧ Z.Warmed39 U.vm ∧ U.heap = h0) (fun _ _ _ _ _ => True) (fun _ U o U' => ∃ v L, o = .returned v ∧ own_Q2 Z p2_0 p2_1 h0 n0 v U'.heap L ∧ FrameEnd U o U' L ({ frames := 0, cells := 0, slots := 0, locals := 0 } : Room).cells ({ frames := 0, cells := 0, slots := 0, locals := 0 } : Room).slots) := by
  refine MetFree.of_bodySF (plainFor_of_name own_pn0) hisR ?_
  intro p e s m args below meth c s₁ Bd hml0 hP hK
  obtain ⟨rfl, hZ, hh⟩ := hP
  have hx := Bd.exec
  have hby := Bd.bytes
  have hml : c.maxLocals = 2 := hml0
  have hown : s.vm.findClass "com/example/arborway/arborway/sim/WalkRunningCountPinLaw" = some m.cls := findClass_of_methodNamed Bd.named
  have hnm := (name_of_methodNamed Bd.named Bd.method).1
  have X0 : Stand p l e ({ frames := 0, cells := 0, slots := 0, locals := 0 } : Room) s m #[(.int p2_0), (.int p2_1)] below meth c s₁ [] 0 0 := Stand.of_body Bd
  have e0 : s₁.heap = h0 := by rw [← hh, Bd.state]; rfl
  have N0 := Fr.nil n0
  have Zr : h0.size ≤ h0.size := Nat.le_refl _
  have pre0 : ∀ t, Steps p.tables e below (s₁.setTop (mkF m 0 #[.val (.int p2_0), .val (.int p2_1)] [])) t → Steps p.tables e below (s₁.setTop (entryFrame m #[(.int p2_0), (.int p2_1)] 2)) t := fun t k => castTop (own_ef2 m p2_0 p2_1) k
  obtain ⟨Tj2_1, lj2_1, Xj2_1, Nj2_1, ej2_1, stj2_1⟩ : ∃ (T' : State) (l' : List Loc), Stand p l e ({ frames := 0, cells := 0, slots := 0, locals := 0 } : Room) s m #[(.int p2_0), (.int p2_1)] below meth c T' l' 0 0 ∧ Fr n0 l' ∧ T'.heap = h0 ∧ ∀ target, Steps p.tables e below (T'.setTop (mkF m 13 #[.val (.int p2_0), .val (.int p2_1)] [(.int (own_j2_0 p2_0 p2_1))])) target → Steps p.tables e below (s₁.setTop (mkF m 5 #[.val (.int p2_0), .val (.int p2_1)] [(.int ((p2_0 >>> (p2_1 &&& 31)) &&& (1 : Int32)))])) target := by
    by_cases hj2_1 : ((p2_0 >>> (p2_1 &&& 31)) &&& (1 : Int32)) = (0 : Int32)
    · refine ⟨_, _, X0, N0, e0, fun target kt => ?_⟩
      rw [(show (own_j2_0 p2_0 p2_1) = (0 : Int32) from if_pos hj2_1)] at kt
      show Steps p.tables e below (s₁.setTop (mkF m 5 #[.val (.int p2_0), .val (.int p2_1)] [(.int ((p2_0 >>> (p2_1 &&& 31)) &&& (1 : Int32)))])) _
      refine XS.ifYes X0.here hx rfl (pc0 := 5) (pc' := 12) rfl (hb hby own_d2_5) rfl (XT.i0_eq_t hj2_1) (by decide) (by decide) ?_
      refine XS.iconst X0.here hx rfl (hb hby own_d2_12) ?_
      exact kt
    · refine ⟨_, _, X0, N0, e0, fun target kt => ?_⟩
      rw [(show (own_j2_0 p2_0 p2_1) = (1 : Int32) from if_neg hj2_1)] at kt
      show Steps p.tables e below (s₁.setTop (mkF m 5 #[.val (.int p2_0), .val (.int p2_1)] [(.int ((p2_0 >>> (p2_1 &&& 31)) &&& (1 : Int32)))])) _
      refine XS.ifNo X0.here hx rfl (hb hby own_d2_5) rfl (XT.i0_eq_f hj2_1) ?_
      refine XS.iconst X0.here hx rfl (hb hby own_d2_8) ?_
      refine XS.goto X0.here hx rfl (pc0 := 9) (pc' := 13) rfl (hb hby own_d2_9) (by decide) (by decide) ?_
      exact kt
  obtain ⟨fs, hr, hrun, hended, hW, hsame⟩ := Xj2_1.leave (v := some (.int (nar .boolean (own_j2_0 p2_0 p2_1)))) (fun h => by rw [Bd.returns] at h; cases h)
  refine ⟨_, _, pre0 _ (?_), hrun, hended, _, _, rfl, ?_, ⟨_, rfl⟩, hW, hsame.mono (by decide) (by decide)⟩
  · show Steps p.tables e below (s₁.setTop (mkF m 0 #[.val (.int p2_0), .val (.int p2_1)] [])) _
    refine XS.iloadN X0.here hx rfl (hb hby own_d2_0) rfl ?_
    refine XS.iloadN X0.here hx rfl (hb hby own_d2_1) rfl ?_
    refine XT.ishr X0.here hx rfl (hb hby own_d2_2) rfl ?_
    refine XS.iconst X0.here hx rfl (hb hby own_d2_3) ?_
    refine XS.iand X0.here hx rfl (hb hby own_d2_4) rfl ?_
    refine stj2_1 _ ?_
    show Steps p.tables e below (Tj2_1.setTop (mkF m 13 #[.val (.int p2_0), .val (.int p2_1)] [(.int (own_j2_0 p2_0 p2_1))])) _
    exact retN Xj2_1 hx (t := .boolean) Bd.returns (by simp) (hb hby own_d2_13) hr
  · show own_Q2 Z p2_0 p2_1 h0 n0 _ Tj2_1.heap _
    rw [ej2_1]
    exact ⟨rfl, Nj2_1, rfl⟩
theorem own_pd0 : parseMethodDescriptor "(II)Z" = some ⟨[.int, .int], some .boolean⟩ := by decide +kernel
theorem own_d9_0 : decode method_4_code 0 = .ok (.iload_n 0, 1) := by decide +kernel
theorem own_d9_1 : decode method_4_code 1 = .ok (.iload_n 1, 1) := by decide +kernel
theorem own_d9_2 : decode method_4_code 2 = .ok (.invokestatic 7, 3) := by decide +kernel
theorem own_d9_5 : decode method_4_code 5 = .ok (.ifCond .eq 7, 3) := by decide +kernel
theorem own_d9_8 : decode method_4_code 8 = .ok (.iconst 0, 1) := by decide +kernel
theorem own_d9_9 : decode method_4_code 9 = .ok (.goto 4, 3) := by decide +kernel
theorem own_d9_12 : decode method_4_code 12 = .ok (.iconst (-1), 1) := by decide +kernel
theorem own_d9_13 : decode method_4_code 13 = .ok (.ireturn, 1) := by decide +kernel
def own_j9_0 (p9_0 : Int32) (p9_1 : Int32) : Int32 := if (own_r2_1 p9_0 p9_1) = (0 : Int32) then (-1 : Int32) else (0 : Int32)
theorem own_ef9 (m : MethodId) (p9_0 : Int32) (p9_1 : Int32) : entryFrame m #[(.int p9_0), (.int p9_1)] 2 = mkF m 0 #[.val (.int p9_0), .val (.int p9_1)] [] := by first | (simp [entryFrame, mkF, argsToLocals, Value.category]; done) | rfl
def own_Q9 (Z : State) (p9_0 : Int32) (p9_1 : Int32) (h0 : Heap) (n0 : Nat) (v : Option Value) (h : Heap) (L : List Loc) : Prop := v = some (.int (own_j9_0 p9_0 p9_1)) ∧ Fr n0 L ∧ h = h0
set_option maxRecDepth 65536 in
set_option maxHeartbeats 40000000 in
theorem own_rm9 (l : Launch) (Z : State) (a0 : Array Value) (hw : ∀ d ∈ tables_1, d.before a0 Z = true) (ws : List Jvm.Cond) (p9_0 : Int32) (p9_1 : Int32) (h0 : Heap) (n0 : Nat) (Z0 : n0 ≤ h0.size) :
    MetFree l (⟨"com/example/arborway/arborway/sim/WalkRunningCountPinLaw", "dep", "(II)I"⟩ : MethodName) (head1 (Jvm.Cond.code (⟨"com/example/arborway/arborway/sim/WalkRunningCountPinLaw", "dep", "(II)I"⟩ : MethodName) method_4_code 2 (some .int) :: ws) ({ frames := 1, cells := 0, slots := 0, locals := 13 } : Room)) (fun a U => a = #[(.int p9_0), (.int p9_1)] ∧ Z.Warmed39 U.vm ∧ U.heap = h0) (fun _ _ _ _ _ => True) (fun _ U o U' => ∃ v L, o = .returned v ∧ own_Q9 Z p9_0 p9_1 h0 n0 v U'.heap L ∧ FrameEnd U o U' L ({ frames := 1, cells := 0, slots := 0, locals := 13 } : Room).cells ({ frames := 1, cells := 0, slots := 0, locals := 13 } : Room).slots) := by
  refine MetFree.of_bodySF (plainFor_of_name own_pn0) hisR ?_
  intro p e s m args below meth c s₁ Bd hml0 hP hK
  obtain ⟨rfl, hZ, hh⟩ := hP
  have hx := Bd.exec
  have hby := Bd.bytes
  have hml : c.maxLocals = 2 := hml0
  have hown : s.vm.findClass "com/example/arborway/arborway/sim/WalkRunningCountPinLaw" = some m.cls := findClass_of_methodNamed Bd.named
  have hnm := (name_of_methodNamed Bd.named Bd.method).1
  have X0 : Stand p l e ({ frames := 1, cells := 0, slots := 0, locals := 13 } : Room) s m #[(.int p9_0), (.int p9_1)] below meth c s₁ [] 0 0 := Stand.of_body Bd
  have e0 : s₁.heap = h0 := by rw [← hh, Bd.state]; rfl
  have N0 := Fr.nil n0
  have Zr : h0.size ≤ h0.size := Nat.le_refl _
  have pre0 : ∀ t, Steps p.tables e below (s₁.setTop (mkF m 0 #[.val (.int p9_0), .val (.int p9_1)] [])) t → Steps p.tables e below (s₁.setTop (entryFrame m #[(.int p9_0), (.int p9_1)] 2)) t := fun t k => castTop (own_ef9 m p9_0 p9_1) k
  obtain ⟨_, _, ⟨Tk9_1, Lk9_1, kk9_1, nk9_1⟩, -, Xk9_1, ⟨Lck9_1, hQk9_1, lk9_1, yk9_1, zk9_1⟩, stk9_1⟩ := Jvm.LawKit.callS X0 hx (y := (⟨"com/example/arborway/arborway/sim/WalkRunningCountPinLaw", "bit", "(II)Z"⟩ : MethodName)) hown (mvT hZ (own_W hw 5 rfl)) (mvT hZ (own_W hw 6 rfl)) (mvT hZ (own_W hw 3 rfl)) (mvT hZ (own_W hw 7 rfl)) (by decide) (backOf (W := 0) (own_rm2 l Z a0 hw [] p9_0 p9_1 h0 n0 Z0) hZ (own_W hw 7 rfl) (own_W hw 3 rfl) (by decide) (by decide)) (g := (mkF m 2 #[.val (.int p9_0), .val (.int p9_1)] [(.int p9_1), (.int p9_0)])) rfl (by rw [hml]; rfl) (argsL := [(.int p9_0), (.int p9_1)]) (rest := []) (lenOf own_pd0 rfl) rfl (by show 2 * 0 + _ ≤ _; exact Nat.le_of_eq rfl) (hb hby own_d9_2) (fun _ _ => ⟨rfl, e0, (by decide : 0 + 0 ≤ _), (by decide : 0 + 0 ≤ _)⟩)
  dsimp only [Pt.U, Pt.locs, Pt.cells, Pt.slots] at Xk9_1 lk9_1 yk9_1 zk9_1 stk9_1 hQk9_1
  replace lk9_1 := lk9_1.symm; replace yk9_1 := yk9_1.symm; replace zk9_1 := zk9_1.symm; subst lk9_1 yk9_1 zk9_1
  obtain ⟨rfl, Nk9_1q, ek9_1⟩ := hQk9_1
  have Nk9_1 := Fr.app N0 Nk9_1q
  obtain ⟨Tj9_2, lj9_2, Xj9_2, Nj9_2, ej9_2, stj9_2⟩ : ∃ (T' : State) (l' : List Loc), Stand p l e ({ frames := 1, cells := 0, slots := 0, locals := 13 } : Room) s m #[(.int p9_0), (.int p9_1)] below meth c T' l' 0 0 ∧ Fr n0 l' ∧ T'.heap = h0 ∧ ∀ target, Steps p.tables e below (T'.setTop (mkF m 13 #[.val (.int p9_0), .val (.int p9_1)] [(.int (own_j9_0 p9_0 p9_1))])) target → Steps p.tables e below (Tk9_1.setTop (mkF m 5 #[.val (.int p9_0), .val (.int p9_1)] [(.int (own_r2_1 p9_0 p9_1))])) target := by
    by_cases hj9_2 : (own_r2_1 p9_0 p9_1) = (0 : Int32)
    · refine ⟨_, _, Xk9_1, Nk9_1, ek9_1, fun target kt => ?_⟩
      rw [(show (own_j9_0 p9_0 p9_1) = (-1 : Int32) from if_pos hj9_2)] at kt
      show Steps p.tables e below (Tk9_1.setTop (mkF m 5 #[.val (.int p9_0), .val (.int p9_1)] [(.int (own_r2_1 p9_0 p9_1))])) _
      refine XS.ifYes Xk9_1.here hx rfl (pc0 := 5) (pc' := 12) rfl (hb hby own_d9_5) rfl (XT.i0_eq_t hj9_2) (by decide) (by decide) ?_
      refine XS.iconst Xk9_1.here hx rfl (hb hby own_d9_12) ?_
      exact kt
    · refine ⟨_, _, Xk9_1, Nk9_1, ek9_1, fun target kt => ?_⟩
      rw [(show (own_j9_0 p9_0 p9_1) = (0 : Int32) from if_neg hj9_2)] at kt
      show Steps p.tables e below (Tk9_1.setTop (mkF m 5 #[.val (.int p9_0), .val (.int p9_1)] [(.int (own_r2_1 p9_0 p9_1))])) _
      refine XS.ifNo Xk9_1.here hx rfl (hb hby own_d9_5) rfl (XT.i0_eq_f hj9_2) ?_
      refine XS.iconst Xk9_1.here hx rfl (hb hby own_d9_8) ?_
      refine XS.goto Xk9_1.here hx rfl (pc0 := 9) (pc' := 13) rfl (hb hby own_d9_9) (by decide) (by decide) ?_
      exact kt
  obtain ⟨fs, hr, hrun, hended, hW, hsame⟩ := Xj9_2.leave (v := some (.int (own_j9_0 p9_0 p9_1))) (fun h => by rw [Bd.returns] at h; cases h)
  refine ⟨_, _, pre0 _ (?_), hrun, hended, _, _, rfl, ?_, ⟨_, rfl⟩, hW, hsame.mono (by decide) (by decide)⟩
  · show Steps p.tables e below (s₁.setTop (mkF m 0 #[.val (.int p9_0), .val (.int p9_1)] [])) _
    refine XS.iloadN X0.here hx rfl (hb hby own_d9_0) rfl ?_
    refine XS.iloadN X0.here hx rfl (hb hby own_d9_1) rfl ?_
    refine stk9_1 _ ?_
    show Steps p.tables e below (Tk9_1.setTop (mkF m 5 #[.val (.int p9_0), .val (.int p9_1)] [(.int (own_r2_1 p9_0 p9_1))])) _
    refine stj9_2 _ ?_
    show Steps p.tables e below (Tj9_2.setTop (mkF m 13 #[.val (.int p9_0), .val (.int p9_1)] [(.int (own_j9_0 p9_0 p9_1))])) _
    exact retI Xj9_2 hx Bd.returns (hb hby own_d9_13) hr
  · show own_Q9 Z p9_0 p9_1 h0 n0 _ Tj9_2.heap _
    rw [ej9_2]
    exact ⟨rfl, Nj9_2, rfl⟩
theorem own_d10_0 : decode method_6_code 0 = .ok (.iload_n 0, 1) := by decide +kernel
theorem own_d10_1 : decode method_6_code 1 = .ok (.iload_n 1, 1) := by decide +kernel
theorem own_d10_2 : decode method_6_code 2 = .ok (.invokestatic 7, 3) := by decide +kernel
theorem own_d10_5 : decode method_6_code 5 = .ok (.ifCond .eq 8, 3) := by decide +kernel
theorem own_d10_8 : decode method_6_code 8 = .ok (.iload_n 1, 1) := by decide +kernel
theorem own_d10_9 : decode method_6_code 9 = .ok (.i2d, 1) := by decide +kernel
theorem own_d10_10 : decode method_6_code 10 = .ok (.goto 6, 3) := by decide +kernel
theorem own_d10_13 : decode method_6_code 13 = .ok (.ldc2_w 17, 3) := by decide +kernel
theorem own_d10_16 : decode method_6_code 16 = .ok (.dreturn, 1) := by decide +kernel
def own_j10_0 (p10_0 : Int32) (p10_1 : Int32) : UInt64 := if (own_r2_1 p10_0 p10_1) = (0 : Int32) then (4652007308841189376 : UInt64) else (FP.i2d p10_1)
theorem own_ef10 (m : MethodId) (p10_0 : Int32) (p10_1 : Int32) : entryFrame m #[(.int p10_0), (.int p10_1)] 2 = mkF m 0 #[.val (.int p10_0), .val (.int p10_1)] [] := by first | (simp [entryFrame, mkF, argsToLocals, Value.category]; done) | rfl
def own_Q10 (Z : State) (p10_0 : Int32) (p10_1 : Int32) (h0 : Heap) (n0 : Nat) (v : Option Value) (h : Heap) (L : List Loc) : Prop := v = some (.double (own_j10_0 p10_0 p10_1)) ∧ Fr n0 L ∧ h = h0
set_option maxRecDepth 65536 in
set_option maxHeartbeats 40000000 in
theorem own_rm10 (l : Launch) (Z : State) (a0 : Array Value) (hw : ∀ d ∈ tables_1, d.before a0 Z = true) (ws : List Jvm.Cond) (p10_0 : Int32) (p10_1 : Int32) (h0 : Heap) (n0 : Nat) (Z0 : n0 ≤ h0.size) :
    MetFree l (⟨"com/example/arborway/arborway/sim/WalkRunningCountPinLaw", "del", "(II)D"⟩ : MethodName) (head1 (Jvm.Cond.code (⟨"com/example/arborway/arborway/sim/WalkRunningCountPinLaw", "del", "(II)D"⟩ : MethodName) method_6_code 2 (some .double) :: ws) ({ frames := 1, cells := 0, slots := 0, locals := 13 } : Room)) (fun a U => a = #[(.int p10_0), (.int p10_1)] ∧ Z.Warmed39 U.vm ∧ U.heap = h0) (fun _ _ _ _ _ => True) (fun _ U o U' => ∃ v L, o = .returned v ∧ own_Q10 Z p10_0 p10_1 h0 n0 v U'.heap L ∧ FrameEnd U o U' L ({ frames := 1, cells := 0, slots := 0, locals := 13 } : Room).cells ({ frames := 1, cells := 0, slots := 0, locals := 13 } : Room).slots) := by
  refine MetFree.of_bodySF (plainFor_of_name own_pn0) hisR ?_
  intro p e s m args below meth c s₁ Bd hml0 hP hK
  obtain ⟨rfl, hZ, hh⟩ := hP
  have hx := Bd.exec
  have hby := Bd.bytes
  have hml : c.maxLocals = 2 := hml0
  have hown : s.vm.findClass "com/example/arborway/arborway/sim/WalkRunningCountPinLaw" = some m.cls := findClass_of_methodNamed Bd.named
  have hnm := (name_of_methodNamed Bd.named Bd.method).1
  have X0 : Stand p l e ({ frames := 1, cells := 0, slots := 0, locals := 13 } : Room) s m #[(.int p10_0), (.int p10_1)] below meth c s₁ [] 0 0 := Stand.of_body Bd
  have e0 : s₁.heap = h0 := by rw [← hh, Bd.state]; rfl
  have N0 := Fr.nil n0
  have Zr : h0.size ≤ h0.size := Nat.le_refl _
  have pre0 : ∀ t, Steps p.tables e below (s₁.setTop (mkF m 0 #[.val (.int p10_0), .val (.int p10_1)] [])) t → Steps p.tables e below (s₁.setTop (entryFrame m #[(.int p10_0), (.int p10_1)] 2)) t := fun t k => castTop (own_ef10 m p10_0 p10_1) k
  obtain ⟨_, _, ⟨Tk10_1, Lk10_1, kk10_1, nk10_1⟩, -, Xk10_1, ⟨Lck10_1, hQk10_1, lk10_1, yk10_1, zk10_1⟩, stk10_1⟩ := Jvm.LawKit.callS X0 hx (y := (⟨"com/example/arborway/arborway/sim/WalkRunningCountPinLaw", "bit", "(II)Z"⟩ : MethodName)) hown (mvT hZ (own_W hw 5 rfl)) (mvT hZ (own_W hw 6 rfl)) (mvT hZ (own_W hw 3 rfl)) (mvT hZ (own_W hw 7 rfl)) (by decide) (backOf (W := 0) (own_rm2 l Z a0 hw [] p10_0 p10_1 h0 n0 Z0) hZ (own_W hw 7 rfl) (own_W hw 3 rfl) (by decide) (by decide)) (g := (mkF m 2 #[.val (.int p10_0), .val (.int p10_1)] [(.int p10_1), (.int p10_0)])) rfl (by rw [hml]; rfl) (argsL := [(.int p10_0), (.int p10_1)]) (rest := []) (lenOf own_pd0 rfl) rfl (by show 2 * 0 + _ ≤ _; exact Nat.le_of_eq rfl) (hb hby own_d10_2) (fun _ _ => ⟨rfl, e0, (by decide : 0 + 0 ≤ _), (by decide : 0 + 0 ≤ _)⟩)
  dsimp only [Pt.U, Pt.locs, Pt.cells, Pt.slots] at Xk10_1 lk10_1 yk10_1 zk10_1 stk10_1 hQk10_1
  replace lk10_1 := lk10_1.symm; replace yk10_1 := yk10_1.symm; replace zk10_1 := zk10_1.symm; subst lk10_1 yk10_1 zk10_1
  obtain ⟨rfl, Nk10_1q, ek10_1⟩ := hQk10_1
  have Nk10_1 := Fr.app N0 Nk10_1q
  obtain ⟨Tj10_2, lj10_2, Xj10_2, Nj10_2, ej10_2, stj10_2⟩ : ∃ (T' : State) (l' : List Loc), Stand p l e ({ frames := 1, cells := 0, slots := 0, locals := 13 } : Room) s m #[(.int p10_0), (.int p10_1)] below meth c T' l' 0 0 ∧ Fr n0 l' ∧ T'.heap = h0 ∧ ∀ target, Steps p.tables e below (T'.setTop (mkF m 16 #[.val (.int p10_0), .val (.int p10_1)] [(.double (own_j10_0 p10_0 p10_1))])) target → Steps p.tables e below (Tk10_1.setTop (mkF m 5 #[.val (.int p10_0), .val (.int p10_1)] [(.int (own_r2_1 p10_0 p10_1))])) target := by
    by_cases hj10_2 : (own_r2_1 p10_0 p10_1) = (0 : Int32)
    · refine ⟨_, _, Xk10_1, Nk10_1, ek10_1, fun target kt => ?_⟩
      rw [(show (own_j10_0 p10_0 p10_1) = (4652007308841189376 : UInt64) from if_pos hj10_2)] at kt
      show Steps p.tables e below (Tk10_1.setTop (mkF m 5 #[.val (.int p10_0), .val (.int p10_1)] [(.int (own_r2_1 p10_0 p10_1))])) _
      refine XS.ifYes Xk10_1.here hx rfl (pc0 := 5) (pc' := 13) rfl (hb hby own_d10_5) rfl (XT.i0_eq_t hj10_2) (by decide) (by decide) ?_
      refine Xk10_1.ldc2DoubleC hx hown (mvT hZ (own_W hw 50 rfl)) (g := (mkF m 13 #[.val (.int p10_0), .val (.int p10_1)] [])) rfl (hb hby own_d10_13) _ ?_
      exact kt
    · refine ⟨_, _, Xk10_1, Nk10_1, ek10_1, fun target kt => ?_⟩
      rw [(show (own_j10_0 p10_0 p10_1) = (FP.i2d p10_1) from if_neg hj10_2)] at kt
      show Steps p.tables e below (Tk10_1.setTop (mkF m 5 #[.val (.int p10_0), .val (.int p10_1)] [(.int (own_r2_1 p10_0 p10_1))])) _
      refine XS.ifNo Xk10_1.here hx rfl (hb hby own_d10_5) rfl (XT.i0_eq_f hj10_2) ?_
      refine XS.iloadN Xk10_1.here hx rfl (hb hby own_d10_8) rfl ?_
      refine XS.i2dS Xk10_1.here hx rfl (hb hby own_d10_9) rfl rfl ?_
      refine XS.goto Xk10_1.here hx rfl (pc0 := 10) (pc' := 16) rfl (hb hby own_d10_10) (by decide) (by decide) ?_
      exact kt
  obtain ⟨fs, hr, hrun, hended, hW, hsame⟩ := Xj10_2.leave (v := some (.double (own_j10_0 p10_0 p10_1))) (fun h => by rw [Bd.returns] at h; cases h)
  refine ⟨_, _, pre0 _ (?_), hrun, hended, _, _, rfl, ?_, ⟨_, rfl⟩, hW, hsame.mono (by decide) (by decide)⟩
  · show Steps p.tables e below (s₁.setTop (mkF m 0 #[.val (.int p10_0), .val (.int p10_1)] [])) _
    refine XS.iloadN X0.here hx rfl (hb hby own_d10_0) rfl ?_
    refine XS.iloadN X0.here hx rfl (hb hby own_d10_1) rfl ?_
    refine stk10_1 _ ?_
    show Steps p.tables e below (Tk10_1.setTop (mkF m 5 #[.val (.int p10_0), .val (.int p10_1)] [(.int (own_r2_1 p10_0 p10_1))])) _
    refine stj10_2 _ ?_
    show Steps p.tables e below (Tj10_2.setTop (mkF m 16 #[.val (.int p10_0), .val (.int p10_1)] [(.double (own_j10_0 p10_0 p10_1))])) _
    exact own_retD Xj10_2 hx Bd.returns (hb hby own_d10_16) hr
  · show own_Q10 Z p10_0 p10_1 h0 n0 _ Tj10_2.heap _
    rw [ej10_2]
    exact ⟨rfl, Nj10_2, rfl⟩
theorem own_pn1 : plainName "java/lang/Record" = true := by first | (simp [plainName, overriddenIn]; done) | decide +kernel
theorem own_d6_0 : decode jdk_30_method_1_code 0 = .ok (.aload_n 0, 1) := by decide +kernel
theorem own_d6_1 : decode jdk_30_method_1_code 1 = .ok (.invokespecial 1, 3) := by decide +kernel
theorem own_d6_4 : decode jdk_30_method_1_code 4 = .ok (.return_, 1) := by decide +kernel
theorem own_ef6 (m : MethodId) (a6_0 : Addr) : entryFrame m #[(.ref a6_0)] 1 = mkF m 0 #[.val (.ref a6_0)] [] := by first | (simp [entryFrame, mkF, argsToLocals, Value.category]; done) | rfl
def own_Q6 (Z : State) (a6_0 : Addr) (h0 : Heap) (n0 : Nat) (v : Option Value) (h : Heap) (L : List Loc) : Prop := v = none ∧ Fr n0 L ∧ h = h0
set_option maxRecDepth 65536 in
set_option maxHeartbeats 40000000 in
theorem own_rm6 (l : Launch) (Z : State) (a0 : Array Value) (hw : ∀ d ∈ tables_1, d.before a0 Z = true) (ws : List Jvm.Cond) (a6_0 : Addr) (h0 : Heap) (n0 : Nat) (Z0 : n0 ≤ h0.size) :
    MetFree l (⟨"java/lang/Record", "<init>", "()V"⟩ : MethodName) (head1 (Jvm.Cond.code (⟨"java/lang/Record", "<init>", "()V"⟩ : MethodName) jdk_30_method_1_code 1 none :: ws) ({ frames := 1, cells := 0, slots := 0, locals := 12 } : Room)) (fun a U => a = #[(.ref a6_0)] ∧ Z.Warmed39 U.vm ∧ U.heap = h0) (fun _ _ _ _ _ => True) (fun _ U o U' => ∃ v L, o = .returned v ∧ own_Q6 Z a6_0 h0 n0 v U'.heap L ∧ FrameEnd U o U' L ({ frames := 1, cells := 0, slots := 0, locals := 12 } : Room).cells ({ frames := 1, cells := 0, slots := 0, locals := 12 } : Room).slots) := by
  refine MetFree.of_bodySF (plainFor_of_name own_pn1) hisR ?_
  intro p e s m args below meth c s₁ Bd hml0 hP hK
  obtain ⟨rfl, hZ, hh⟩ := hP
  have hx := Bd.exec
  have hby := Bd.bytes
  have hml : c.maxLocals = 1 := hml0
  have hown : s.vm.findClass "java/lang/Record" = some m.cls := findClass_of_methodNamed Bd.named
  have hnm := (name_of_methodNamed Bd.named Bd.method).1
  have X0 : Stand p l e ({ frames := 1, cells := 0, slots := 0, locals := 12 } : Room) s m #[(.ref a6_0)] below meth c s₁ [] 0 0 := Stand.of_body Bd
  have e0 : s₁.heap = h0 := by rw [← hh, Bd.state]; rfl
  have N0 := Fr.nil n0
  have Zr : h0.size ≤ h0.size := Nat.le_refl _
  have pre0 : ∀ t, Steps p.tables e below (s₁.setTop (mkF m 0 #[.val (.ref a6_0)] [])) t → Steps p.tables e below (s₁.setTop (entryFrame m #[(.ref a6_0)] 1)) t := fun t k => castTop (own_ef6 m a6_0) k
  obtain ⟨Tn6_1, Xn6_1, en6_1, stn6_1⟩ := initO X0 hx hZ hown (own_W hw 28 rfl) (own_W hw 29 rfl) (own_W hw 30 rfl) e0 (g := (mkF m 1 #[.val (.ref a6_0)] [(.ref a6_0)])) rfl (by rw [hml]; rfl) rfl (hb hby own_d6_1) (by decide) (W := 0) (by show 2 * 0 + _ ≤ _; exact Nat.le_of_eq rfl) (by decide)
  obtain ⟨fs, hr, hrun, hended, hW, hsame⟩ := Xn6_1.leave (v := none) (fun _ => rfl)
  refine ⟨_, _, pre0 _ (?_), hrun, hended, _, _, rfl, ?_, ⟨_, rfl⟩, hW, hsame.mono (by decide) (by decide)⟩
  · show Steps p.tables e below (s₁.setTop (mkF m 0 #[.val (.ref a6_0)] [])) _
    refine XS.aloadN X0.here hx rfl (hb hby own_d6_0) rfl rfl ?_
    refine stn6_1 _ ?_
    show Steps p.tables e below (Tn6_1.setTop (mkF m 4 #[.val (.ref a6_0)] [])) _
    exact Xn6_1.returnOut hx Bd.returns (hb hby own_d6_4) hr
  · show own_Q6 Z a6_0 h0 n0 _ Tn6_1.heap _
    rw [en6_1]
    exact ⟨rfl, N0, rfl⟩
theorem own_pn2 : plainName "com/example/arborway/arborway/sim/RunTally$Walk" = true := by first | (simp [plainName, overriddenIn]; done) | decide +kernel
theorem own_pd1 : parseMethodDescriptor "()V" = some ⟨[], none⟩ := by decide +kernel
theorem own_d5_0 : decode prog_76_method_1_code 0 = .ok (.aload_n 0, 1) := by decide +kernel
theorem own_d5_1 : decode prog_76_method_1_code 1 = .ok (.invokespecial 1, 3) := by decide +kernel
theorem own_d5_4 : decode prog_76_method_1_code 4 = .ok (.aload_n 0, 1) := by decide +kernel
theorem own_d5_5 : decode prog_76_method_1_code 5 = .ok (.aload_n 1, 1) := by decide +kernel
theorem own_d5_6 : decode prog_76_method_1_code 6 = .ok (.putfield 7, 3) := by decide +kernel
theorem own_d5_9 : decode prog_76_method_1_code 9 = .ok (.aload_n 0, 1) := by decide +kernel
theorem own_d5_10 : decode prog_76_method_1_code 10 = .ok (.aload_n 2, 1) := by decide +kernel
theorem own_d5_11 : decode prog_76_method_1_code 11 = .ok (.putfield 13, 3) := by decide +kernel
theorem own_d5_14 : decode prog_76_method_1_code 14 = .ok (.aload_n 0, 1) := by decide +kernel
theorem own_d5_15 : decode prog_76_method_1_code 15 = .ok (.aload_n 3, 1) := by decide +kernel
theorem own_d5_16 : decode prog_76_method_1_code 16 = .ok (.putfield 17, 3) := by decide +kernel
theorem own_d5_19 : decode prog_76_method_1_code 19 = .ok (.aload_n 0, 1) := by decide +kernel
theorem own_d5_20 : decode prog_76_method_1_code 20 = .ok (.dload 4, 2) := by decide +kernel
theorem own_d5_22 : decode prog_76_method_1_code 22 = .ok (.putfield 21, 3) := by decide +kernel
theorem own_d5_25 : decode prog_76_method_1_code 25 = .ok (.return_, 1) := by decide +kernel
theorem own_ef5 (m : MethodId) (a5_0 : Addr) (a5_1 : Addr) (a5_2 : Addr) (a5_3 : Addr) (d5_4 : UInt64) : entryFrame m #[(.ref a5_0), (.ref a5_1), (.ref a5_2), (.ref a5_3), (.double d5_4)] 6 = mkF m 0 #[.val (.ref a5_0), .val (.ref a5_1), .val (.ref a5_2), .val (.ref a5_3), .val (.double d5_4), .second] [] := by first | (simp [entryFrame, mkF, argsToLocals, Value.category]; done) | rfl
def own_Q5 (Z : State) (a5_0 : Addr) (a5_1 : Addr) (a5_2 : Addr) (a5_3 : Addr) (d5_4 : UInt64) (w_depth_a5_0 : Value) (w_rootDelayMs_a5_0 : Value) (w_running_a5_0 : Value) (w_costMs_a5_0 : Value) (h0 : Heap) (n0 : Nat) (v : Option Value) (h : Heap) (L : List Loc) : Prop := v = none ∧ Fr n0 L ∧ Keep h0 h [a5_0] ∧ Exa Z h a5_0 "com/example/arborway/arborway/sim/RunTally$Walk" ∧ Fld Z h a5_0 "com/example/arborway/arborway/sim/RunTally$Walk" "depth" "[I" (.ref a5_1) ∧ Fld Z h a5_0 "com/example/arborway/arborway/sim/RunTally$Walk" "rootDelayMs" "[D" (.ref a5_2) ∧ Fld Z h a5_0 "com/example/arborway/arborway/sim/RunTally$Walk" "running" "[Z" (.ref a5_3) ∧ Fld Z h a5_0 "com/example/arborway/arborway/sim/RunTally$Walk" "costMs" "D" (.double d5_4)
set_option maxRecDepth 65536 in
set_option maxHeartbeats 40000000 in
theorem own_rm5 (l : Launch) (Z : State) (a0 : Array Value) (hw : ∀ d ∈ tables_1, d.before a0 Z = true) (ws : List Jvm.Cond) (a5_0 : Addr) (a5_1 : Addr) (a5_2 : Addr) (a5_3 : Addr) (d5_4 : UInt64) (w_depth_a5_0 : Value) (w_rootDelayMs_a5_0 : Value) (w_running_a5_0 : Value) (w_costMs_a5_0 : Value) (h0 : Heap) (n0 : Nat) (Z0 : n0 ≤ h0.size) (E_a5_0 : Exa Z h0 a5_0 "com/example/arborway/arborway/sim/RunTally$Walk") (F_depth_a5_0 : Fld Z h0 a5_0 "com/example/arborway/arborway/sim/RunTally$Walk" "depth" "[I" w_depth_a5_0) (g_a5_0 : n0 ≤ a5_0) (F_rootDelayMs_a5_0 : Fld Z h0 a5_0 "com/example/arborway/arborway/sim/RunTally$Walk" "rootDelayMs" "[D" w_rootDelayMs_a5_0) (F_running_a5_0 : Fld Z h0 a5_0 "com/example/arborway/arborway/sim/RunTally$Walk" "running" "[Z" w_running_a5_0) (F_costMs_a5_0 : Fld Z h0 a5_0 "com/example/arborway/arborway/sim/RunTally$Walk" "costMs" "D" w_costMs_a5_0) :
    MetFree l (⟨"com/example/arborway/arborway/sim/RunTally$Walk", "<init>", "([I[D[ZD)V"⟩ : MethodName) (head1 (Jvm.Cond.code (⟨"com/example/arborway/arborway/sim/RunTally$Walk", "<init>", "([I[D[ZD)V"⟩ : MethodName) prog_76_method_1_code 6 none :: ws) ({ frames := 2, cells := 0, slots := 0, locals := 24 } : Room)) (fun a U => a = #[(.ref a5_0), (.ref a5_1), (.ref a5_2), (.ref a5_3), (.double d5_4)] ∧ Z.Warmed39 U.vm ∧ U.heap = h0) (fun _ _ _ _ _ => True) (fun _ U o U' => ∃ v L, o = .returned v ∧ own_Q5 Z a5_0 a5_1 a5_2 a5_3 d5_4 w_depth_a5_0 w_rootDelayMs_a5_0 w_running_a5_0 w_costMs_a5_0 h0 n0 v U'.heap L ∧ FrameEnd U o U' L ({ frames := 2, cells := 0, slots := 0, locals := 24 } : Room).cells ({ frames := 2, cells := 0, slots := 0, locals := 24 } : Room).slots) := by
  refine MetFree.of_bodySF (plainFor_of_name own_pn2) hisR ?_
  intro p e s m args below meth c s₁ Bd hml0 hP hK
  obtain ⟨rfl, hZ, hh⟩ := hP
  have hx := Bd.exec
  have hby := Bd.bytes
  have hml : c.maxLocals = 6 := hml0
  have hown : s.vm.findClass "com/example/arborway/arborway/sim/RunTally$Walk" = some m.cls := findClass_of_methodNamed Bd.named
  have hnm := (name_of_methodNamed Bd.named Bd.method).1
  have X0 : Stand p l e ({ frames := 2, cells := 0, slots := 0, locals := 24 } : Room) s m #[(.ref a5_0), (.ref a5_1), (.ref a5_2), (.ref a5_3), (.double d5_4)] below meth c s₁ [] 0 0 := Stand.of_body Bd
  have e0 : s₁.heap = h0 := by rw [← hh, Bd.state]; rfl
  have N0 := Fr.nil n0
  have Zr : h0.size ≤ h0.size := Nat.le_refl _
  have pre0 : ∀ t, Steps p.tables e below (s₁.setTop (mkF m 0 #[.val (.ref a5_0), .val (.ref a5_1), .val (.ref a5_2), .val (.ref a5_3), .val (.double d5_4), .second] [])) t → Steps p.tables e below (s₁.setTop (entryFrame m #[(.ref a5_0), (.ref a5_1), (.ref a5_2), (.ref a5_3), (.double d5_4)] 6)) t := fun t k => castTop (own_ef5 m a5_0 a5_1 a5_2 a5_3 d5_4) k
  obtain ⟨_, _, ⟨Tk5_1, Lk5_1, kk5_1, nk5_1⟩, -, Xk5_1, ⟨Lck5_1, hQk5_1, lk5_1, yk5_1, zk5_1⟩, stk5_1⟩ := X0.specialBack hx (y := (⟨"java/lang/Record", "<init>", "()V"⟩ : MethodName)) rfl hown (mvT hZ (own_W hw 23 rfl)) (mvT hZ (own_W hw 24 rfl)) (mvT hZ (own_W hw 27 rfl)) (by decide) (backOf (W := 0) (own_rm6 l Z a0 hw [] a5_0 h0 n0 Z0) hZ (own_W hw 27 rfl) (own_W hw 26 rfl) (by decide) (by decide)) (g := (mkF m 1 #[.val (.ref a5_0), .val (.ref a5_1), .val (.ref a5_2), .val (.ref a5_3), .val (.double d5_4), .second] [(.ref a5_0)])) rfl (by rw [hml]; rfl) (Steps.refl _) (a := a5_0) (argsL := []) (rest := []) (lenOf own_pd1 rfl) rfl (by show 2 * 0 + _ ≤ _; exact Nat.le_of_eq rfl) (hb hby own_d5_1) (fun _ _ => ⟨rfl, e0, (by decide : 0 + 0 ≤ _), (by decide : 0 + 0 ≤ _)⟩)
  dsimp only [Pt.U, Pt.locs, Pt.cells, Pt.slots] at Xk5_1 lk5_1 yk5_1 zk5_1 stk5_1 hQk5_1
  replace lk5_1 := lk5_1.symm; replace yk5_1 := yk5_1.symm; replace zk5_1 := zk5_1.symm; subst lk5_1 yk5_1 zk5_1
  obtain ⟨rfl, Nk5_1q, ek5_1⟩ := hQk5_1
  have Nk5_1 := Fr.app N0 Nk5_1q
  obtain ⟨Tn5_2, hn5_2, Xn5_2, en5_2, Wn5_2, stn5_2⟩ := putF Xk5_1 hx hZ hown (host := "") (Or.inl (own_W hw 31 rfl)) Via.refl ek5_1 F_depth_a5_0 E_a5_0 (Or.inr ⟨(own_W hw 32 rfl), rfl, hnm⟩) (own_W hw 18 rfl) (ty := (.array .int)) (by decide) rfl rfl (g := (mkF m 6 #[.val (.ref a5_0), .val (.ref a5_1), .val (.ref a5_2), .val (.ref a5_3), .val (.double d5_4), .second] [(.ref a5_1), (.ref a5_0)])) rfl rfl (hb hby own_d5_6)
  have Fwn5_2 : Fld Z hn5_2 a5_0 "com/example/arborway/arborway/sim/RunTally$Walk" "depth" "[I" (.ref a5_1) := F_depth_a5_0.same Wn5_2
  have sz5_3 : h0.size ≤ hn5_2.size := Nat.le_trans Zr (Nat.le_of_eq Wn5_2.size.symm)
  have Nn5_2 := Fr.snoc Xn5_2 Nk5_1 g_a5_0
  have F5_4 := (E_a5_0.wr Wn5_2)
  have F5_5 := (F_rootDelayMs_a5_0.other Wn5_2 (Or.inr (slot_ne (Or.inr (own_W hw 34 rfl)) (Or.inr (own_W hw 32 rfl)) (by decide) (t := (.array .double)) (t' := (.array .int)) (by decide) (by decide))))
  obtain ⟨Tn5_6, hn5_6, Xn5_6, en5_6, Wn5_6, stn5_6⟩ := putF Xn5_2 hx hZ hown (host := "") (Or.inl (own_W hw 33 rfl)) Via.refl en5_2 F5_5 F5_4 (Or.inr ⟨(own_W hw 34 rfl), rfl, hnm⟩) (own_W hw 18 rfl) (ty := (.array .double)) (by decide) rfl rfl (g := (mkF m 11 #[.val (.ref a5_0), .val (.ref a5_1), .val (.ref a5_2), .val (.ref a5_3), .val (.double d5_4), .second] [(.ref a5_2), (.ref a5_0)])) rfl rfl (hb hby own_d5_11)
  have Fwn5_6 : Fld Z hn5_6 a5_0 "com/example/arborway/arborway/sim/RunTally$Walk" "rootDelayMs" "[D" (.ref a5_2) := F5_5.same Wn5_6
  have sz5_7 : h0.size ≤ hn5_6.size := Nat.le_trans sz5_3 (Nat.le_of_eq Wn5_6.size.symm)
  have Nn5_6 := Fr.snoc Xn5_6 Nn5_2 g_a5_0
  have F5_8 := (F5_4.wr Wn5_6)
  have F5_9 := ((F_running_a5_0.other Wn5_2 (Or.inr (slot_ne (Or.inr (own_W hw 36 rfl)) (Or.inr (own_W hw 32 rfl)) (by decide) (t := (.array .boolean)) (t' := (.array .int)) (by decide) (by decide)))).other Wn5_6 (Or.inr (slot_ne (Or.inr (own_W hw 36 rfl)) (Or.inr (own_W hw 34 rfl)) (by decide) (t := (.array .boolean)) (t' := (.array .double)) (by decide) (by decide))))
  obtain ⟨Tn5_10, hn5_10, Xn5_10, en5_10, Wn5_10, stn5_10⟩ := putF Xn5_6 hx hZ hown (host := "") (Or.inl (own_W hw 35 rfl)) Via.refl en5_6 F5_9 F5_8 (Or.inr ⟨(own_W hw 36 rfl), rfl, hnm⟩) (own_W hw 18 rfl) (ty := (.array .boolean)) (by decide) rfl rfl (g := (mkF m 16 #[.val (.ref a5_0), .val (.ref a5_1), .val (.ref a5_2), .val (.ref a5_3), .val (.double d5_4), .second] [(.ref a5_3), (.ref a5_0)])) rfl rfl (hb hby own_d5_16)
  have Fwn5_10 : Fld Z hn5_10 a5_0 "com/example/arborway/arborway/sim/RunTally$Walk" "running" "[Z" (.ref a5_3) := F5_9.same Wn5_10
  have sz5_11 : h0.size ≤ hn5_10.size := Nat.le_trans sz5_7 (Nat.le_of_eq Wn5_10.size.symm)
  have Nn5_10 := Fr.snoc Xn5_10 Nn5_6 g_a5_0
  have F5_12 := (F5_8.wr Wn5_10)
  have F5_13 := (((F_costMs_a5_0.other Wn5_2 (Or.inr (slot_ne (Or.inr (own_W hw 38 rfl)) (Or.inr (own_W hw 32 rfl)) (by decide) (t := .double) (t' := (.array .int)) (by decide) (by decide)))).other Wn5_6 (Or.inr (slot_ne (Or.inr (own_W hw 38 rfl)) (Or.inr (own_W hw 34 rfl)) (by decide) (t := .double) (t' := (.array .double)) (by decide) (by decide)))).other Wn5_10 (Or.inr (slot_ne (Or.inr (own_W hw 38 rfl)) (Or.inr (own_W hw 36 rfl)) (by decide) (t := .double) (t' := (.array .boolean)) (by decide) (by decide))))
  obtain ⟨Tn5_14, hn5_14, Xn5_14, en5_14, Wn5_14, stn5_14⟩ := putF Xn5_10 hx hZ hown (host := "") (Or.inl (own_W hw 37 rfl)) Via.refl en5_10 F5_13 F5_12 (Or.inr ⟨(own_W hw 38 rfl), rfl, hnm⟩) (own_W hw 18 rfl) (ty := .double) (by decide) rfl rfl (g := (mkF m 22 #[.val (.ref a5_0), .val (.ref a5_1), .val (.ref a5_2), .val (.ref a5_3), .val (.double d5_4), .second] [(.double d5_4), (.ref a5_0)])) rfl rfl (hb hby own_d5_22)
  have Fwn5_14 : Fld Z hn5_14 a5_0 "com/example/arborway/arborway/sim/RunTally$Walk" "costMs" "D" (.double d5_4) := F5_13.same Wn5_14
  have sz5_15 : h0.size ≤ hn5_14.size := Nat.le_trans sz5_11 (Nat.le_of_eq Wn5_14.size.symm)
  have Nn5_14 := Fr.snoc Xn5_14 Nn5_10 g_a5_0
  obtain ⟨fs, hr, hrun, hended, hW, hsame⟩ := Xn5_14.leave (v := none) (fun _ => rfl)
  refine ⟨_, _, pre0 _ (?_), hrun, hended, _, _, rfl, ?_, ⟨_, rfl⟩, hW, hsame.mono (by decide) (by decide)⟩
  · show Steps p.tables e below (s₁.setTop (mkF m 0 #[.val (.ref a5_0), .val (.ref a5_1), .val (.ref a5_2), .val (.ref a5_3), .val (.double d5_4), .second] [])) _
    refine XS.aloadN X0.here hx rfl (hb hby own_d5_0) rfl rfl ?_
    refine stk5_1.trans ?_
    show Steps p.tables e below (Tk5_1.setTop (mkF m 4 #[.val (.ref a5_0), .val (.ref a5_1), .val (.ref a5_2), .val (.ref a5_3), .val (.double d5_4), .second] [])) _
    refine XS.aloadN Xk5_1.here hx rfl (hb hby own_d5_4) rfl rfl ?_
    refine XS.aloadN Xk5_1.here hx rfl (hb hby own_d5_5) rfl rfl ?_
    refine stn5_2 _ ?_
    show Steps p.tables e below (Tn5_2.setTop (mkF m 9 #[.val (.ref a5_0), .val (.ref a5_1), .val (.ref a5_2), .val (.ref a5_3), .val (.double d5_4), .second] [])) _
    refine XS.aloadN Xn5_2.here hx rfl (hb hby own_d5_9) rfl rfl ?_
    refine XS.aloadN Xn5_2.here hx rfl (hb hby own_d5_10) rfl rfl ?_
    refine stn5_6 _ ?_
    show Steps p.tables e below (Tn5_6.setTop (mkF m 14 #[.val (.ref a5_0), .val (.ref a5_1), .val (.ref a5_2), .val (.ref a5_3), .val (.double d5_4), .second] [])) _
    refine XS.aloadN Xn5_6.here hx rfl (hb hby own_d5_14) rfl rfl ?_
    refine XS.aloadN Xn5_6.here hx rfl (hb hby own_d5_15) rfl rfl ?_
    refine stn5_10 _ ?_
    show Steps p.tables e below (Tn5_10.setTop (mkF m 19 #[.val (.ref a5_0), .val (.ref a5_1), .val (.ref a5_2), .val (.ref a5_3), .val (.double d5_4), .second] [])) _
    refine XS.aloadN Xn5_10.here hx rfl (hb hby own_d5_19) rfl rfl ?_
    refine XS.dload Xn5_10.here hx rfl (hb hby own_d5_20) rfl ?_
    refine stn5_14 _ ?_
    show Steps p.tables e below (Tn5_14.setTop (mkF m 25 #[.val (.ref a5_0), .val (.ref a5_1), .val (.ref a5_2), .val (.ref a5_3), .val (.double d5_4), .second] [])) _
    exact Xn5_14.returnOut hx Bd.returns (hb hby own_d5_25) hr
  · show own_Q5 Z a5_0 a5_1 a5_2 a5_3 d5_4 w_depth_a5_0 w_rootDelayMs_a5_0 w_running_a5_0 w_costMs_a5_0 h0 n0 _ Tn5_14.heap _
    rw [en5_14]
    exact ⟨rfl, Nn5_14, (((((Keep.refl h0 [a5_0]).wr Wn5_2 (Or.inl (List.mem_of_getElem? (i := 0) rfl))).wr Wn5_6 (Or.inl (List.mem_of_getElem? (i := 0) rfl))).wr Wn5_10 (Or.inl (List.mem_of_getElem? (i := 0) rfl))).wr Wn5_14 (Or.inl (List.mem_of_getElem? (i := 0) rfl))), (F5_12.wr Wn5_14), (((Fwn5_2.other Wn5_6 (Or.inr (slot_ne (Or.inr (own_W hw 32 rfl)) (Or.inr (own_W hw 34 rfl)) (by decide) (t := (.array .int)) (t' := (.array .double)) (by decide) (by decide)))).other Wn5_10 (Or.inr (slot_ne (Or.inr (own_W hw 32 rfl)) (Or.inr (own_W hw 36 rfl)) (by decide) (t := (.array .int)) (t' := (.array .boolean)) (by decide) (by decide)))).other Wn5_14 (Or.inr (slot_ne (Or.inr (own_W hw 32 rfl)) (Or.inr (own_W hw 38 rfl)) (by decide) (t := (.array .int)) (t' := .double) (by decide) (by decide)))), ((Fwn5_6.other Wn5_10 (Or.inr (slot_ne (Or.inr (own_W hw 34 rfl)) (Or.inr (own_W hw 36 rfl)) (by decide) (t := (.array .double)) (t' := (.array .boolean)) (by decide) (by decide)))).other Wn5_14 (Or.inr (slot_ne (Or.inr (own_W hw 34 rfl)) (Or.inr (own_W hw 38 rfl)) (by decide) (t := (.array .double)) (t' := .double) (by decide) (by decide)))), (Fwn5_10.other Wn5_14 (Or.inr (slot_ne (Or.inr (own_W hw 36 rfl)) (Or.inr (own_W hw 38 rfl)) (by decide) (t := (.array .boolean)) (t' := .double) (by decide) (by decide)))), Fwn5_14⟩
theorem own_d1_0 : decode method_3_code 0 = .ok (.iload_n 1, 1) := by decide +kernel
theorem own_d1_1 : decode method_3_code 1 = .ok (.iconst 0, 1) := by decide +kernel
theorem own_d1_2 : decode method_3_code 2 = .ok (.invokestatic 7, 3) := by decide +kernel
theorem own_d1_5 : decode method_3_code 5 = .ok (.istore_n 2, 1) := by decide +kernel
theorem own_d1_6 : decode method_3_code 6 = .ok (.iload_n 1, 1) := by decide +kernel
theorem own_d1_7 : decode method_3_code 7 = .ok (.iconst 1, 1) := by decide +kernel
theorem own_d1_8 : decode method_3_code 8 = .ok (.invokestatic 7, 3) := by decide +kernel
theorem own_d1_11 : decode method_3_code 11 = .ok (.istore_n 3, 1) := by decide +kernel
theorem own_d1_12 : decode method_3_code 12 = .ok (.iload_n 1, 1) := by decide +kernel
theorem own_d1_13 : decode method_3_code 13 = .ok (.iconst 2, 1) := by decide +kernel
theorem own_d1_14 : decode method_3_code 14 = .ok (.invokestatic 7, 3) := by decide +kernel
theorem own_d1_17 : decode method_3_code 17 = .ok (.istore 4, 2) := by decide +kernel
theorem own_d1_19 : decode method_3_code 19 = .ok (.iload_n 1, 1) := by decide +kernel
theorem own_d1_20 : decode method_3_code 20 = .ok (.iconst 3, 1) := by decide +kernel
theorem own_d1_21 : decode method_3_code 21 = .ok (.invokestatic 7, 3) := by decide +kernel
theorem own_d1_24 : decode method_3_code 24 = .ok (.istore 5, 2) := by decide +kernel
theorem own_d1_26 : decode method_3_code 26 = .ok (.iload_n 1, 1) := by decide +kernel
theorem own_d1_27 : decode method_3_code 27 = .ok (.iconst 4, 1) := by decide +kernel
theorem own_d1_28 : decode method_3_code 28 = .ok (.invokestatic 7, 3) := by decide +kernel
theorem own_d1_31 : decode method_3_code 31 = .ok (.istore 6, 2) := by decide +kernel
theorem own_d1_33 : decode method_3_code 33 = .ok (.iload_n 1, 1) := by decide +kernel
theorem own_d1_34 : decode method_3_code 34 = .ok (.iconst 5, 1) := by decide +kernel
theorem own_d1_35 : decode method_3_code 35 = .ok (.invokestatic 7, 3) := by decide +kernel
theorem own_d1_38 : decode method_3_code 38 = .ok (.istore 7, 2) := by decide +kernel
theorem own_d1_40 : decode method_3_code 40 = .ok (.iload_n 0, 1) := by decide +kernel
theorem own_d1_41 : decode method_3_code 41 = .ok (.ifCond .ne 7, 3) := by decide +kernel
theorem own_d1_44 : decode method_3_code 44 = .ok (.iconst 0, 1) := by decide +kernel
theorem own_d1_45 : decode method_3_code 45 = .ok (.newarray .boolean, 2) := by decide +kernel
theorem own_d1_47 : decode method_3_code 47 = .ok (.areturn, 1) := by decide +kernel
def own_vruns0_0 (pruns0_1 : Int32) : Int32 := (own_r2_1 pruns0_1 (0 : Int32))
def own_vruns0_1 (pruns0_1 : Int32) : Int32 := (own_r2_1 pruns0_1 (1 : Int32))
def own_vruns0_2 (pruns0_1 : Int32) : Int32 := (own_r2_1 pruns0_1 (2 : Int32))
def own_vruns0_3 (pruns0_1 : Int32) : Int32 := (own_r2_1 pruns0_1 (3 : Int32))
def own_vruns0_4 (pruns0_1 : Int32) : Int32 := (own_r2_1 pruns0_1 (4 : Int32))
def own_vruns0_5 (pruns0_1 : Int32) : Int32 := (own_r2_1 pruns0_1 (5 : Int32))
theorem own_efruns0 (m : MethodId) (pruns0_1 : Int32) : entryFrame m #[(.int (0 : Int32)), (.int pruns0_1)] 8 = mkF m 0 #[.val (.int (0 : Int32)), .val (.int pruns0_1), .unset, .unset, .unset, .unset, .unset, .unset] [] := by first | (simp [entryFrame, mkF, argsToLocals, Value.category]; done) | rfl
def own_Qruns0 (Z : State) (pruns0_1 : Int32) (h0 : Heap) (n0 : Nat) (v : Option Value) (h : Heap) (L : List Loc) : Prop := ∃ (bnruns0_7 : Addr) (knruns0_7 : ClassId), v = some (.ref bnruns0_7) ∧ Fr n0 L ∧ Keep h0 h [] ∧ h0.size ≤ bnruns0_7 ∧ Arv Z h bnruns0_7 knruns0_7 .boolean (0 : Int32) [] (.int (0 : Int32))
set_option maxRecDepth 65536 in
set_option maxHeartbeats 40000000 in
theorem own_rmruns0 (l : Launch) (Z : State) (a0 : Array Value) (hw : ∀ d ∈ tables_1, d.before a0 Z = true) (ws : List Jvm.Cond) (pruns0_1 : Int32) (h0 : Heap) (n0 : Nat) (Z0 : n0 ≤ h0.size) :
    MetFree l (⟨"com/example/arborway/arborway/sim/WalkRunningCountPinLaw", "runs", "(II)[Z"⟩ : MethodName) (head1 (Jvm.Cond.code (⟨"com/example/arborway/arborway/sim/WalkRunningCountPinLaw", "runs", "(II)[Z"⟩ : MethodName) method_3_code 8 (some (.array .boolean)) :: ws) ({ frames := 1, cells := 1, slots := 0, locals := 13 } : Room)) (fun a U => a = #[(.int (0 : Int32)), (.int pruns0_1)] ∧ Z.Warmed39 U.vm ∧ U.heap = h0) (fun _ _ _ _ _ => True) (fun _ U o U' => ∃ v L, o = .returned v ∧ own_Qruns0 Z pruns0_1 h0 n0 v U'.heap L ∧ FrameEnd U o U' L ({ frames := 1, cells := 1, slots := 0, locals := 13 } : Room).cells ({ frames := 1, cells := 1, slots := 0, locals := 13 } : Room).slots) := by
  refine MetFree.of_bodySF (plainFor_of_name own_pn0) hisR ?_
  intro p e s m args below meth c s₁ Bd hml0 hP hK
  obtain ⟨rfl, hZ, hh⟩ := hP
  have hx := Bd.exec
  have hby := Bd.bytes
  have hml : c.maxLocals = 8 := hml0
  have hown : s.vm.findClass "com/example/arborway/arborway/sim/WalkRunningCountPinLaw" = some m.cls := findClass_of_methodNamed Bd.named
  have hnm := (name_of_methodNamed Bd.named Bd.method).1
  have X0 : Stand p l e ({ frames := 1, cells := 1, slots := 0, locals := 13 } : Room) s m #[(.int (0 : Int32)), (.int pruns0_1)] below meth c s₁ [] 0 0 := Stand.of_body Bd
  have e0 : s₁.heap = h0 := by rw [← hh, Bd.state]; rfl
  have N0 := Fr.nil n0
  have Zr : h0.size ≤ h0.size := Nat.le_refl _
  have pre0 : ∀ t, Steps p.tables e below (s₁.setTop (mkF m 0 #[.val (.int (0 : Int32)), .val (.int pruns0_1), .unset, .unset, .unset, .unset, .unset, .unset] [])) t → Steps p.tables e below (s₁.setTop (entryFrame m #[(.int (0 : Int32)), (.int pruns0_1)] 8)) t := fun t k => castTop (own_efruns0 m pruns0_1) k
  obtain ⟨_, _, ⟨Tkruns0_1, Lkruns0_1, kkruns0_1, nkruns0_1⟩, -, Xkruns0_1, ⟨Lckruns0_1, hQkruns0_1, lkruns0_1, ykruns0_1, zkruns0_1⟩, stkruns0_1⟩ := Jvm.LawKit.callS X0 hx (y := (⟨"com/example/arborway/arborway/sim/WalkRunningCountPinLaw", "bit", "(II)Z"⟩ : MethodName)) hown (mvT hZ (own_W hw 5 rfl)) (mvT hZ (own_W hw 6 rfl)) (mvT hZ (own_W hw 3 rfl)) (mvT hZ (own_W hw 7 rfl)) (by decide) (backOf (W := 0) (own_rm2 l Z a0 hw [] pruns0_1 (0 : Int32) h0 n0 Z0) hZ (own_W hw 7 rfl) (own_W hw 3 rfl) (by decide) (by decide)) (g := (mkF m 2 #[.val (.int (0 : Int32)), .val (.int pruns0_1), .unset, .unset, .unset, .unset, .unset, .unset] [(.int (0 : Int32)), (.int pruns0_1)])) rfl (by rw [hml]; rfl) (argsL := [(.int pruns0_1), (.int (0 : Int32))]) (rest := []) (lenOf own_pd0 rfl) rfl (by show 2 * 0 + _ ≤ _; exact Nat.le_of_eq rfl) (hb hby own_d1_2) (fun _ _ => ⟨rfl, e0, (by decide : 0 + 0 ≤ _), (by decide : 0 + 0 ≤ _)⟩)
  dsimp only [Pt.U, Pt.locs, Pt.cells, Pt.slots] at Xkruns0_1 lkruns0_1 ykruns0_1 zkruns0_1 stkruns0_1 hQkruns0_1
  replace lkruns0_1 := lkruns0_1.symm; replace ykruns0_1 := ykruns0_1.symm; replace zkruns0_1 := zkruns0_1.symm; subst lkruns0_1 ykruns0_1 zkruns0_1
  obtain ⟨rfl, Nkruns0_1q, ekruns0_1⟩ := hQkruns0_1
  have Nkruns0_1 := Fr.app N0 Nkruns0_1q
  obtain ⟨_, _, ⟨Tkruns0_2, Lkruns0_2, kkruns0_2, nkruns0_2⟩, -, Xkruns0_2, ⟨Lckruns0_2, hQkruns0_2, lkruns0_2, ykruns0_2, zkruns0_2⟩, stkruns0_2⟩ := Jvm.LawKit.callS Xkruns0_1 hx (y := (⟨"com/example/arborway/arborway/sim/WalkRunningCountPinLaw", "bit", "(II)Z"⟩ : MethodName)) hown (mvT hZ (own_W hw 5 rfl)) (mvT hZ (own_W hw 6 rfl)) (mvT hZ (own_W hw 3 rfl)) (mvT hZ (own_W hw 7 rfl)) (by decide) (backOf (W := 0) (own_rm2 l Z a0 hw [] pruns0_1 (1 : Int32) h0 n0 Z0) hZ (own_W hw 7 rfl) (own_W hw 3 rfl) (by decide) (by decide)) (g := (mkF m 8 #[.val (.int (0 : Int32)), .val (.int pruns0_1), .val (.int (own_vruns0_0 pruns0_1)), .unset, .unset, .unset, .unset, .unset] [(.int (1 : Int32)), (.int pruns0_1)])) rfl (by rw [hml]; rfl) (argsL := [(.int pruns0_1), (.int (1 : Int32))]) (rest := []) (lenOf own_pd0 rfl) rfl (by show 2 * 0 + _ ≤ _; exact Nat.le_of_eq rfl) (hb hby own_d1_8) (fun _ _ => ⟨rfl, ekruns0_1, (by decide : 0 + 0 ≤ _), (by decide : 0 + 0 ≤ _)⟩)
  dsimp only [Pt.U, Pt.locs, Pt.cells, Pt.slots] at Xkruns0_2 lkruns0_2 ykruns0_2 zkruns0_2 stkruns0_2 hQkruns0_2
  replace lkruns0_2 := lkruns0_2.symm; replace ykruns0_2 := ykruns0_2.symm; replace zkruns0_2 := zkruns0_2.symm; subst lkruns0_2 ykruns0_2 zkruns0_2
  obtain ⟨rfl, Nkruns0_2q, ekruns0_2⟩ := hQkruns0_2
  have Nkruns0_2 := Fr.app Nkruns0_1 Nkruns0_2q
  obtain ⟨_, _, ⟨Tkruns0_3, Lkruns0_3, kkruns0_3, nkruns0_3⟩, -, Xkruns0_3, ⟨Lckruns0_3, hQkruns0_3, lkruns0_3, ykruns0_3, zkruns0_3⟩, stkruns0_3⟩ := Jvm.LawKit.callS Xkruns0_2 hx (y := (⟨"com/example/arborway/arborway/sim/WalkRunningCountPinLaw", "bit", "(II)Z"⟩ : MethodName)) hown (mvT hZ (own_W hw 5 rfl)) (mvT hZ (own_W hw 6 rfl)) (mvT hZ (own_W hw 3 rfl)) (mvT hZ (own_W hw 7 rfl)) (by decide) (backOf (W := 0) (own_rm2 l Z a0 hw [] pruns0_1 (2 : Int32) h0 n0 Z0) hZ (own_W hw 7 rfl) (own_W hw 3 rfl) (by decide) (by decide)) (g := (mkF m 14 #[.val (.int (0 : Int32)), .val (.int pruns0_1), .val (.int (own_vruns0_0 pruns0_1)), .val (.int (own_vruns0_1 pruns0_1)), .unset, .unset, .unset, .unset] [(.int (2 : Int32)), (.int pruns0_1)])) rfl (by rw [hml]; rfl) (argsL := [(.int pruns0_1), (.int (2 : Int32))]) (rest := []) (lenOf own_pd0 rfl) rfl (by show 2 * 0 + _ ≤ _; exact Nat.le_of_eq rfl) (hb hby own_d1_14) (fun _ _ => ⟨rfl, ekruns0_2, (by decide : 0 + 0 ≤ _), (by decide : 0 + 0 ≤ _)⟩)
  dsimp only [Pt.U, Pt.locs, Pt.cells, Pt.slots] at Xkruns0_3 lkruns0_3 ykruns0_3 zkruns0_3 stkruns0_3 hQkruns0_3
  replace lkruns0_3 := lkruns0_3.symm; replace ykruns0_3 := ykruns0_3.symm; replace zkruns0_3 := zkruns0_3.symm; subst lkruns0_3 ykruns0_3 zkruns0_3
  obtain ⟨rfl, Nkruns0_3q, ekruns0_3⟩ := hQkruns0_3
  have Nkruns0_3 := Fr.app Nkruns0_2 Nkruns0_3q
  obtain ⟨_, _, ⟨Tkruns0_4, Lkruns0_4, kkruns0_4, nkruns0_4⟩, -, Xkruns0_4, ⟨Lckruns0_4, hQkruns0_4, lkruns0_4, ykruns0_4, zkruns0_4⟩, stkruns0_4⟩ := Jvm.LawKit.callS Xkruns0_3 hx (y := (⟨"com/example/arborway/arborway/sim/WalkRunningCountPinLaw", "bit", "(II)Z"⟩ : MethodName)) hown (mvT hZ (own_W hw 5 rfl)) (mvT hZ (own_W hw 6 rfl)) (mvT hZ (own_W hw 3 rfl)) (mvT hZ (own_W hw 7 rfl)) (by decide) (backOf (W := 0) (own_rm2 l Z a0 hw [] pruns0_1 (3 : Int32) h0 n0 Z0) hZ (own_W hw 7 rfl) (own_W hw 3 rfl) (by decide) (by decide)) (g := (mkF m 21 #[.val (.int (0 : Int32)), .val (.int pruns0_1), .val (.int (own_vruns0_0 pruns0_1)), .val (.int (own_vruns0_1 pruns0_1)), .val (.int (own_vruns0_2 pruns0_1)), .unset, .unset, .unset] [(.int (3 : Int32)), (.int pruns0_1)])) rfl (by rw [hml]; rfl) (argsL := [(.int pruns0_1), (.int (3 : Int32))]) (rest := []) (lenOf own_pd0 rfl) rfl (by show 2 * 0 + _ ≤ _; exact Nat.le_of_eq rfl) (hb hby own_d1_21) (fun _ _ => ⟨rfl, ekruns0_3, (by decide : 0 + 0 ≤ _), (by decide : 0 + 0 ≤ _)⟩)
  dsimp only [Pt.U, Pt.locs, Pt.cells, Pt.slots] at Xkruns0_4 lkruns0_4 ykruns0_4 zkruns0_4 stkruns0_4 hQkruns0_4
  replace lkruns0_4 := lkruns0_4.symm; replace ykruns0_4 := ykruns0_4.symm; replace zkruns0_4 := zkruns0_4.symm; subst lkruns0_4 ykruns0_4 zkruns0_4
  obtain ⟨rfl, Nkruns0_4q, ekruns0_4⟩ := hQkruns0_4
  have Nkruns0_4 := Fr.app Nkruns0_3 Nkruns0_4q
  obtain ⟨_, _, ⟨Tkruns0_5, Lkruns0_5, kkruns0_5, nkruns0_5⟩, -, Xkruns0_5, ⟨Lckruns0_5, hQkruns0_5, lkruns0_5, ykruns0_5, zkruns0_5⟩, stkruns0_5⟩ := Jvm.LawKit.callS Xkruns0_4 hx (y := (⟨"com/example/arborway/arborway/sim/WalkRunningCountPinLaw", "bit", "(II)Z"⟩ : MethodName)) hown (mvT hZ (own_W hw 5 rfl)) (mvT hZ (own_W hw 6 rfl)) (mvT hZ (own_W hw 3 rfl)) (mvT hZ (own_W hw 7 rfl)) (by decide) (backOf (W := 0) (own_rm2 l Z a0 hw [] pruns0_1 (4 : Int32) h0 n0 Z0) hZ (own_W hw 7 rfl) (own_W hw 3 rfl) (by decide) (by decide)) (g := (mkF m 28 #[.val (.int (0 : Int32)), .val (.int pruns0_1), .val (.int (own_vruns0_0 pruns0_1)), .val (.int (own_vruns0_1 pruns0_1)), .val (.int (own_vruns0_2 pruns0_1)), .val (.int (own_vruns0_3 pruns0_1)), .unset, .unset] [(.int (4 : Int32)), (.int pruns0_1)])) rfl (by rw [hml]; rfl) (argsL := [(.int pruns0_1), (.int (4 : Int32))]) (rest := []) (lenOf own_pd0 rfl) rfl (by show 2 * 0 + _ ≤ _; exact Nat.le_of_eq rfl) (hb hby own_d1_28) (fun _ _ => ⟨rfl, ekruns0_4, (by decide : 0 + 0 ≤ _), (by decide : 0 + 0 ≤ _)⟩)
  dsimp only [Pt.U, Pt.locs, Pt.cells, Pt.slots] at Xkruns0_5 lkruns0_5 ykruns0_5 zkruns0_5 stkruns0_5 hQkruns0_5
  replace lkruns0_5 := lkruns0_5.symm; replace ykruns0_5 := ykruns0_5.symm; replace zkruns0_5 := zkruns0_5.symm; subst lkruns0_5 ykruns0_5 zkruns0_5
  obtain ⟨rfl, Nkruns0_5q, ekruns0_5⟩ := hQkruns0_5
  have Nkruns0_5 := Fr.app Nkruns0_4 Nkruns0_5q
  obtain ⟨_, _, ⟨Tkruns0_6, Lkruns0_6, kkruns0_6, nkruns0_6⟩, -, Xkruns0_6, ⟨Lckruns0_6, hQkruns0_6, lkruns0_6, ykruns0_6, zkruns0_6⟩, stkruns0_6⟩ := Jvm.LawKit.callS Xkruns0_5 hx (y := (⟨"com/example/arborway/arborway/sim/WalkRunningCountPinLaw", "bit", "(II)Z"⟩ : MethodName)) hown (mvT hZ (own_W hw 5 rfl)) (mvT hZ (own_W hw 6 rfl)) (mvT hZ (own_W hw 3 rfl)) (mvT hZ (own_W hw 7 rfl)) (by decide) (backOf (W := 0) (own_rm2 l Z a0 hw [] pruns0_1 (5 : Int32) h0 n0 Z0) hZ (own_W hw 7 rfl) (own_W hw 3 rfl) (by decide) (by decide)) (g := (mkF m 35 #[.val (.int (0 : Int32)), .val (.int pruns0_1), .val (.int (own_vruns0_0 pruns0_1)), .val (.int (own_vruns0_1 pruns0_1)), .val (.int (own_vruns0_2 pruns0_1)), .val (.int (own_vruns0_3 pruns0_1)), .val (.int (own_vruns0_4 pruns0_1)), .unset] [(.int (5 : Int32)), (.int pruns0_1)])) rfl (by rw [hml]; rfl) (argsL := [(.int pruns0_1), (.int (5 : Int32))]) (rest := []) (lenOf own_pd0 rfl) rfl (by show 2 * 0 + _ ≤ _; exact Nat.le_of_eq rfl) (hb hby own_d1_35) (fun _ _ => ⟨rfl, ekruns0_5, (by decide : 0 + 0 ≤ _), (by decide : 0 + 0 ≤ _)⟩)
  dsimp only [Pt.U, Pt.locs, Pt.cells, Pt.slots] at Xkruns0_6 lkruns0_6 ykruns0_6 zkruns0_6 stkruns0_6 hQkruns0_6
  replace lkruns0_6 := lkruns0_6.symm; replace ykruns0_6 := ykruns0_6.symm; replace zkruns0_6 := zkruns0_6.symm; subst lkruns0_6 ykruns0_6 zkruns0_6
  obtain ⟨rfl, Nkruns0_6q, ekruns0_6⟩ := hQkruns0_6
  have Nkruns0_6 := Fr.app Nkruns0_5 Nkruns0_6q
  obtain ⟨Tnruns0_7, hnruns0_7, knruns0_7, Xnruns0_7, enruns0_7, Enruns0_7, Anruns0_7, stnruns0_7⟩ := newP Xkruns0_6 hx hZ (own_W hw 8 rfl) ekruns0_6 (g := (mkF m 45 #[.val (.int (0 : Int32)), .val (.int pruns0_1), .val (.int (own_vruns0_0 pruns0_1)), .val (.int (own_vruns0_1 pruns0_1)), .val (.int (own_vruns0_2 pruns0_1)), .val (.int (own_vruns0_3 pruns0_1)), .val (.int (own_vruns0_4 pruns0_1)), .val (.int (own_vruns0_5 pruns0_1))] [(.int (0 : Int32))])) rfl (hb hby own_d1_45) rfl (by decide) (cap := 0) (by decide) (by decide) (by decide) (by decide)
  obtain ⟨bnruns0_7, gnruns0_7⟩ : ∃ z, z = h0.size := ⟨_, rfl⟩
  rw [← gnruns0_7] at Anruns0_7 stnruns0_7
  have g_bnruns0_7 : n0 ≤ bnruns0_7 := Nat.le_trans Z0 (Nat.le_of_eq gnruns0_7.symm)
  have sz_bnruns0_7 : h0.size ≤ bnruns0_7 := Nat.le_trans Zr (Nat.le_of_eq gnruns0_7.symm)
  have szruns0_8 : h0.size ≤ hnruns0_7.size := Nat.le_trans Zr Enruns0_7.1
  have V_bnruns0_7 : Arv Z hnruns0_7 bnruns0_7 knruns0_7 .boolean (0 : Int32) [] (.int (0 : Int32)) := (Arv.new Anruns0_7 (by decide)).pad (pad_rep [] (.int (0 : Int32)) 0)
  obtain ⟨fs, hr, hrun, hended, hW, hsame⟩ := Xnruns0_7.leave (v := some (.ref bnruns0_7)) (fun h => by rw [Bd.returns] at h; cases h)
  refine ⟨_, _, pre0 _ (?_), hrun, hended, _, _, rfl, ?_, ⟨_, rfl⟩, hW, hsame.mono (by decide) (by decide)⟩
  · show Steps p.tables e below (s₁.setTop (mkF m 0 #[.val (.int (0 : Int32)), .val (.int pruns0_1), .unset, .unset, .unset, .unset, .unset, .unset] [])) _
    refine XS.iloadN X0.here hx rfl (hb hby own_d1_0) rfl ?_
    refine XS.iconst X0.here hx rfl (hb hby own_d1_1) ?_
    refine stkruns0_1 _ ?_
    show Steps p.tables e below (Tkruns0_1.setTop (mkF m 5 #[.val (.int (0 : Int32)), .val (.int pruns0_1), .unset, .unset, .unset, .unset, .unset, .unset] [(.int (own_r2_1 pruns0_1 (0 : Int32)))])) _
    refine XS.istoreN Xkruns0_1.here hx rfl (hb hby own_d1_5) rfl (l' := #[.val (.int (0 : Int32)), .val (.int pruns0_1), .val (.int (own_vruns0_0 pruns0_1)), .unset, .unset, .unset, .unset, .unset]) rfl ?_
    refine XS.iloadN Xkruns0_1.here hx rfl (hb hby own_d1_6) rfl ?_
    refine XS.iconst Xkruns0_1.here hx rfl (hb hby own_d1_7) ?_
    refine stkruns0_2 _ ?_
    show Steps p.tables e below (Tkruns0_2.setTop (mkF m 11 #[.val (.int (0 : Int32)), .val (.int pruns0_1), .val (.int (own_vruns0_0 pruns0_1)), .unset, .unset, .unset, .unset, .unset] [(.int (own_r2_1 pruns0_1 (1 : Int32)))])) _
    refine XS.istoreN Xkruns0_2.here hx rfl (hb hby own_d1_11) rfl (l' := #[.val (.int (0 : Int32)), .val (.int pruns0_1), .val (.int (own_vruns0_0 pruns0_1)), .val (.int (own_vruns0_1 pruns0_1)), .unset, .unset, .unset, .unset]) rfl ?_
    refine XS.iloadN Xkruns0_2.here hx rfl (hb hby own_d1_12) rfl ?_
    refine XS.iconst Xkruns0_2.here hx rfl (hb hby own_d1_13) ?_
    refine stkruns0_3 _ ?_
    show Steps p.tables e below (Tkruns0_3.setTop (mkF m 17 #[.val (.int (0 : Int32)), .val (.int pruns0_1), .val (.int (own_vruns0_0 pruns0_1)), .val (.int (own_vruns0_1 pruns0_1)), .unset, .unset, .unset, .unset] [(.int (own_r2_1 pruns0_1 (2 : Int32)))])) _
    refine XS.istore Xkruns0_3.here hx rfl (hb hby own_d1_17) rfl (l' := #[.val (.int (0 : Int32)), .val (.int pruns0_1), .val (.int (own_vruns0_0 pruns0_1)), .val (.int (own_vruns0_1 pruns0_1)), .val (.int (own_vruns0_2 pruns0_1)), .unset, .unset, .unset]) rfl ?_
    refine XS.iloadN Xkruns0_3.here hx rfl (hb hby own_d1_19) rfl ?_
    refine XS.iconst Xkruns0_3.here hx rfl (hb hby own_d1_20) ?_
    refine stkruns0_4 _ ?_
    show Steps p.tables e below (Tkruns0_4.setTop (mkF m 24 #[.val (.int (0 : Int32)), .val (.int pruns0_1), .val (.int (own_vruns0_0 pruns0_1)), .val (.int (own_vruns0_1 pruns0_1)), .val (.int (own_vruns0_2 pruns0_1)), .unset, .unset, .unset] [(.int (own_r2_1 pruns0_1 (3 : Int32)))])) _
    refine XS.istore Xkruns0_4.here hx rfl (hb hby own_d1_24) rfl (l' := #[.val (.int (0 : Int32)), .val (.int pruns0_1), .val (.int (own_vruns0_0 pruns0_1)), .val (.int (own_vruns0_1 pruns0_1)), .val (.int (own_vruns0_2 pruns0_1)), .val (.int (own_vruns0_3 pruns0_1)), .unset, .unset]) rfl ?_
    refine XS.iloadN Xkruns0_4.here hx rfl (hb hby own_d1_26) rfl ?_
    refine XS.iconst Xkruns0_4.here hx rfl (hb hby own_d1_27) ?_
    refine stkruns0_5 _ ?_
    show Steps p.tables e below (Tkruns0_5.setTop (mkF m 31 #[.val (.int (0 : Int32)), .val (.int pruns0_1), .val (.int (own_vruns0_0 pruns0_1)), .val (.int (own_vruns0_1 pruns0_1)), .val (.int (own_vruns0_2 pruns0_1)), .val (.int (own_vruns0_3 pruns0_1)), .unset, .unset] [(.int (own_r2_1 pruns0_1 (4 : Int32)))])) _
    refine XS.istore Xkruns0_5.here hx rfl (hb hby own_d1_31) rfl (l' := #[.val (.int (0 : Int32)), .val (.int pruns0_1), .val (.int (own_vruns0_0 pruns0_1)), .val (.int (own_vruns0_1 pruns0_1)), .val (.int (own_vruns0_2 pruns0_1)), .val (.int (own_vruns0_3 pruns0_1)), .val (.int (own_vruns0_4 pruns0_1)), .unset]) rfl ?_
    refine XS.iloadN Xkruns0_5.here hx rfl (hb hby own_d1_33) rfl ?_
    refine XS.iconst Xkruns0_5.here hx rfl (hb hby own_d1_34) ?_
    refine stkruns0_6 _ ?_
    show Steps p.tables e below (Tkruns0_6.setTop (mkF m 38 #[.val (.int (0 : Int32)), .val (.int pruns0_1), .val (.int (own_vruns0_0 pruns0_1)), .val (.int (own_vruns0_1 pruns0_1)), .val (.int (own_vruns0_2 pruns0_1)), .val (.int (own_vruns0_3 pruns0_1)), .val (.int (own_vruns0_4 pruns0_1)), .unset] [(.int (own_r2_1 pruns0_1 (5 : Int32)))])) _
    refine XS.istore Xkruns0_6.here hx rfl (hb hby own_d1_38) rfl (l' := #[.val (.int (0 : Int32)), .val (.int pruns0_1), .val (.int (own_vruns0_0 pruns0_1)), .val (.int (own_vruns0_1 pruns0_1)), .val (.int (own_vruns0_2 pruns0_1)), .val (.int (own_vruns0_3 pruns0_1)), .val (.int (own_vruns0_4 pruns0_1)), .val (.int (own_vruns0_5 pruns0_1))]) rfl ?_
    refine XS.iloadN Xkruns0_6.here hx rfl (hb hby own_d1_40) rfl ?_
    refine XS.ifNo Xkruns0_6.here hx rfl (hb hby own_d1_41) rfl (XT.i0_ne_f (by decide : (0 : Int32) = (0 : Int32))) ?_
    refine XS.iconst Xkruns0_6.here hx rfl (hb hby own_d1_44) ?_
    refine stnruns0_7 _ ?_
    show Steps p.tables e below (Tnruns0_7.setTop (mkF m 47 #[.val (.int (0 : Int32)), .val (.int pruns0_1), .val (.int (own_vruns0_0 pruns0_1)), .val (.int (own_vruns0_1 pruns0_1)), .val (.int (own_vruns0_2 pruns0_1)), .val (.int (own_vruns0_3 pruns0_1)), .val (.int (own_vruns0_4 pruns0_1)), .val (.int (own_vruns0_5 pruns0_1))] [(.ref bnruns0_7)])) _
    jvm_step Xnruns0_7.here [Xnruns0_7.here.top, hx, (hb hby own_d1_47), Xnruns0_7.method', Bd.returns, Value.isRef, FieldType.isReference]
    first | (intro acts; rw [hr _ acts rfl rfl rfl]) | rw [hr _ _ rfl rfl rfl]
    exact Steps.refl _
  · show own_Qruns0 Z pruns0_1 h0 n0 _ Tnruns0_7.heap _
    rw [enruns0_7]
    exact ⟨bnruns0_7, knruns0_7, rfl, Nkruns0_6, ((Keep.refl h0 []).ext Enruns0_7), sz_bnruns0_7, V_bnruns0_7⟩
theorem own_d1_48 : decode method_3_code 48 = .ok (.iload_n 0, 1) := by decide +kernel
theorem own_d1_49 : decode method_3_code 49 = .ok (.iconst 1, 1) := by decide +kernel
theorem own_d1_50 : decode method_3_code 50 = .ok (.if_icmp .ne 11, 3) := by decide +kernel
theorem own_d1_53 : decode method_3_code 53 = .ok (.iconst 1, 1) := by decide +kernel
theorem own_d1_54 : decode method_3_code 54 = .ok (.newarray .boolean, 2) := by decide +kernel
theorem own_d1_56 : decode method_3_code 56 = .ok (.dup, 1) := by decide +kernel
theorem own_d1_57 : decode method_3_code 57 = .ok (.iconst 0, 1) := by decide +kernel
theorem own_d1_58 : decode method_3_code 58 = .ok (.iload_n 2, 1) := by decide +kernel
theorem own_d1_59 : decode method_3_code 59 = .ok (.bastore, 1) := by decide +kernel
theorem own_d1_60 : decode method_3_code 60 = .ok (.areturn, 1) := by decide +kernel
def own_vruns1_0 (pruns1_1 : Int32) : Int32 := (own_r2_1 pruns1_1 (0 : Int32))
def own_vruns1_1 (pruns1_1 : Int32) : Int32 := (own_r2_1 pruns1_1 (1 : Int32))
def own_vruns1_2 (pruns1_1 : Int32) : Int32 := (own_r2_1 pruns1_1 (2 : Int32))
def own_vruns1_3 (pruns1_1 : Int32) : Int32 := (own_r2_1 pruns1_1 (3 : Int32))
def own_vruns1_4 (pruns1_1 : Int32) : Int32 := (own_r2_1 pruns1_1 (4 : Int32))
def own_vruns1_5 (pruns1_1 : Int32) : Int32 := (own_r2_1 pruns1_1 (5 : Int32))
theorem own_efruns1 (m : MethodId) (pruns1_1 : Int32) : entryFrame m #[(.int (1 : Int32)), (.int pruns1_1)] 8 = mkF m 0 #[.val (.int (1 : Int32)), .val (.int pruns1_1), .unset, .unset, .unset, .unset, .unset, .unset] [] := by first | (simp [entryFrame, mkF, argsToLocals, Value.category]; done) | rfl
def own_Qruns1 (Z : State) (pruns1_1 : Int32) (h0 : Heap) (n0 : Nat) (v : Option Value) (h : Heap) (L : List Loc) : Prop := ∃ (bnruns1_7 : Addr) (knruns1_7 : ClassId), v = some (.ref bnruns1_7) ∧ Fr n0 L ∧ Keep h0 h [] ∧ h0.size ≤ bnruns1_7 ∧ Arv Z h bnruns1_7 knruns1_7 .boolean (1 : Int32) [(.int (nar .boolean (own_vruns1_0 pruns1_1)))] (.int (0 : Int32))
set_option maxRecDepth 65536 in
set_option maxHeartbeats 40000000 in
theorem own_rmruns1 (l : Launch) (Z : State) (a0 : Array Value) (hw : ∀ d ∈ tables_1, d.before a0 Z = true) (ws : List Jvm.Cond) (pruns1_1 : Int32) (h0 : Heap) (n0 : Nat) (Z0 : n0 ≤ h0.size) :
    MetFree l (⟨"com/example/arborway/arborway/sim/WalkRunningCountPinLaw", "runs", "(II)[Z"⟩ : MethodName) (head1 (Jvm.Cond.code (⟨"com/example/arborway/arborway/sim/WalkRunningCountPinLaw", "runs", "(II)[Z"⟩ : MethodName) method_3_code 8 (some (.array .boolean)) :: ws) ({ frames := 1, cells := 1, slots := 1, locals := 13 } : Room)) (fun a U => a = #[(.int (1 : Int32)), (.int pruns1_1)] ∧ Z.Warmed39 U.vm ∧ U.heap = h0) (fun _ _ _ _ _ => True) (fun _ U o U' => ∃ v L, o = .returned v ∧ own_Qruns1 Z pruns1_1 h0 n0 v U'.heap L ∧ FrameEnd U o U' L ({ frames := 1, cells := 1, slots := 1, locals := 13 } : Room).cells ({ frames := 1, cells := 1, slots := 1, locals := 13 } : Room).slots) := by
  refine MetFree.of_bodySF (plainFor_of_name own_pn0) hisR ?_
  intro p e s m args below meth c s₁ Bd hml0 hP hK
  obtain ⟨rfl, hZ, hh⟩ := hP
  have hx := Bd.exec
  have hby := Bd.bytes
  have hml : c.maxLocals = 8 := hml0
  have hown : s.vm.findClass "com/example/arborway/arborway/sim/WalkRunningCountPinLaw" = some m.cls := findClass_of_methodNamed Bd.named
  have hnm := (name_of_methodNamed Bd.named Bd.method).1
  have X0 : Stand p l e ({ frames := 1, cells := 1, slots := 1, locals := 13 } : Room) s m #[(.int (1 : Int32)), (.int pruns1_1)] below meth c s₁ [] 0 0 := Stand.of_body Bd
  have e0 : s₁.heap = h0 := by rw [← hh, Bd.state]; rfl
  have N0 := Fr.nil n0
  have Zr : h0.size ≤ h0.size := Nat.le_refl _
  have pre0 : ∀ t, Steps p.tables e below (s₁.setTop (mkF m 0 #[.val (.int (1 : Int32)), .val (.int pruns1_1), .unset, .unset, .unset, .unset, .unset, .unset] [])) t → Steps p.tables e below (s₁.setTop (entryFrame m #[(.int (1 : Int32)), (.int pruns1_1)] 8)) t := fun t k => castTop (own_efruns1 m pruns1_1) k
  obtain ⟨_, _, ⟨Tkruns1_1, Lkruns1_1, kkruns1_1, nkruns1_1⟩, -, Xkruns1_1, ⟨Lckruns1_1, hQkruns1_1, lkruns1_1, ykruns1_1, zkruns1_1⟩, stkruns1_1⟩ := Jvm.LawKit.callS X0 hx (y := (⟨"com/example/arborway/arborway/sim/WalkRunningCountPinLaw", "bit", "(II)Z"⟩ : MethodName)) hown (mvT hZ (own_W hw 5 rfl)) (mvT hZ (own_W hw 6 rfl)) (mvT hZ (own_W hw 3 rfl)) (mvT hZ (own_W hw 7 rfl)) (by decide) (backOf (W := 0) (own_rm2 l Z a0 hw [] pruns1_1 (0 : Int32) h0 n0 Z0) hZ (own_W hw 7 rfl) (own_W hw 3 rfl) (by decide) (by decide)) (g := (mkF m 2 #[.val (.int (1 : Int32)), .val (.int pruns1_1), .unset, .unset, .unset, .unset, .unset, .unset] [(.int (0 : Int32)), (.int pruns1_1)])) rfl (by rw [hml]; rfl) (argsL := [(.int pruns1_1), (.int (0 : Int32))]) (rest := []) (lenOf own_pd0 rfl) rfl (by show 2 * 0 + _ ≤ _; exact Nat.le_of_eq rfl) (hb hby own_d1_2) (fun _ _ => ⟨rfl, e0, (by decide : 0 + 0 ≤ _), (by decide : 0 + 0 ≤ _)⟩)
  dsimp only [Pt.U, Pt.locs, Pt.cells, Pt.slots] at Xkruns1_1 lkruns1_1 ykruns1_1 zkruns1_1 stkruns1_1 hQkruns1_1
  replace lkruns1_1 := lkruns1_1.symm; replace ykruns1_1 := ykruns1_1.symm; replace zkruns1_1 := zkruns1_1.symm; subst lkruns1_1 ykruns1_1 zkruns1_1
  obtain ⟨rfl, Nkruns1_1q, ekruns1_1⟩ := hQkruns1_1
  have Nkruns1_1 := Fr.app N0 Nkruns1_1q
  obtain ⟨_, _, ⟨Tkruns1_2, Lkruns1_2, kkruns1_2, nkruns1_2⟩, -, Xkruns1_2, ⟨Lckruns1_2, hQkruns1_2, lkruns1_2, ykruns1_2, zkruns1_2⟩, stkruns1_2⟩ := Jvm.LawKit.callS Xkruns1_1 hx (y := (⟨"com/example/arborway/arborway/sim/WalkRunningCountPinLaw", "bit", "(II)Z"⟩ : MethodName)) hown (mvT hZ (own_W hw 5 rfl)) (mvT hZ (own_W hw 6 rfl)) (mvT hZ (own_W hw 3 rfl)) (mvT hZ (own_W hw 7 rfl)) (by decide) (backOf (W := 0) (own_rm2 l Z a0 hw [] pruns1_1 (1 : Int32) h0 n0 Z0) hZ (own_W hw 7 rfl) (own_W hw 3 rfl) (by decide) (by decide)) (g := (mkF m 8 #[.val (.int (1 : Int32)), .val (.int pruns1_1), .val (.int (own_vruns1_0 pruns1_1)), .unset, .unset, .unset, .unset, .unset] [(.int (1 : Int32)), (.int pruns1_1)])) rfl (by rw [hml]; rfl) (argsL := [(.int pruns1_1), (.int (1 : Int32))]) (rest := []) (lenOf own_pd0 rfl) rfl (by show 2 * 0 + _ ≤ _; exact Nat.le_of_eq rfl) (hb hby own_d1_8) (fun _ _ => ⟨rfl, ekruns1_1, (by decide : 0 + 0 ≤ _), (by decide : 0 + 0 ≤ _)⟩)
  dsimp only [Pt.U, Pt.locs, Pt.cells, Pt.slots] at Xkruns1_2 lkruns1_2 ykruns1_2 zkruns1_2 stkruns1_2 hQkruns1_2
  replace lkruns1_2 := lkruns1_2.symm; replace ykruns1_2 := ykruns1_2.symm; replace zkruns1_2 := zkruns1_2.symm; subst lkruns1_2 ykruns1_2 zkruns1_2
  obtain ⟨rfl, Nkruns1_2q, ekruns1_2⟩ := hQkruns1_2
  have Nkruns1_2 := Fr.app Nkruns1_1 Nkruns1_2q
  obtain ⟨_, _, ⟨Tkruns1_3, Lkruns1_3, kkruns1_3, nkruns1_3⟩, -, Xkruns1_3, ⟨Lckruns1_3, hQkruns1_3, lkruns1_3, ykruns1_3, zkruns1_3⟩, stkruns1_3⟩ := Jvm.LawKit.callS Xkruns1_2 hx (y := (⟨"com/example/arborway/arborway/sim/WalkRunningCountPinLaw", "bit", "(II)Z"⟩ : MethodName)) hown (mvT hZ (own_W hw 5 rfl)) (mvT hZ (own_W hw 6 rfl)) (mvT hZ (own_W hw 3 rfl)) (mvT hZ (own_W hw 7 rfl)) (by decide) (backOf (W := 0) (own_rm2 l Z a0 hw [] pruns1_1 (2 : Int32) h0 n0 Z0) hZ (own_W hw 7 rfl) (own_W hw 3 rfl) (by decide) (by decide)) (g := (mkF m 14 #[.val (.int (1 : Int32)), .val (.int pruns1_1), .val (.int (own_vruns1_0 pruns1_1)), .val (.int (own_vruns1_1 pruns1_1)), .unset, .unset, .unset, .unset] [(.int (2 : Int32)), (.int pruns1_1)])) rfl (by rw [hml]; rfl) (argsL := [(.int pruns1_1), (.int (2 : Int32))]) (rest := []) (lenOf own_pd0 rfl) rfl (by show 2 * 0 + _ ≤ _; exact Nat.le_of_eq rfl) (hb hby own_d1_14) (fun _ _ => ⟨rfl, ekruns1_2, (by decide : 0 + 0 ≤ _), (by decide : 0 + 0 ≤ _)⟩)
  dsimp only [Pt.U, Pt.locs, Pt.cells, Pt.slots] at Xkruns1_3 lkruns1_3 ykruns1_3 zkruns1_3 stkruns1_3 hQkruns1_3
  replace lkruns1_3 := lkruns1_3.symm; replace ykruns1_3 := ykruns1_3.symm; replace zkruns1_3 := zkruns1_3.symm; subst lkruns1_3 ykruns1_3 zkruns1_3
  obtain ⟨rfl, Nkruns1_3q, ekruns1_3⟩ := hQkruns1_3
  have Nkruns1_3 := Fr.app Nkruns1_2 Nkruns1_3q
  obtain ⟨_, _, ⟨Tkruns1_4, Lkruns1_4, kkruns1_4, nkruns1_4⟩, -, Xkruns1_4, ⟨Lckruns1_4, hQkruns1_4, lkruns1_4, ykruns1_4, zkruns1_4⟩, stkruns1_4⟩ := Jvm.LawKit.callS Xkruns1_3 hx (y := (⟨"com/example/arborway/arborway/sim/WalkRunningCountPinLaw", "bit", "(II)Z"⟩ : MethodName)) hown (mvT hZ (own_W hw 5 rfl)) (mvT hZ (own_W hw 6 rfl)) (mvT hZ (own_W hw 3 rfl)) (mvT hZ (own_W hw 7 rfl)) (by decide) (backOf (W := 0) (own_rm2 l Z a0 hw [] pruns1_1 (3 : Int32) h0 n0 Z0) hZ (own_W hw 7 rfl) (own_W hw 3 rfl) (by decide) (by decide)) (g := (mkF m 21 #[.val (.int (1 : Int32)), .val (.int pruns1_1), .val (.int (own_vruns1_0 pruns1_1)), .val (.int (own_vruns1_1 pruns1_1)), .val (.int (own_vruns1_2 pruns1_1)), .unset, .unset, .unset] [(.int (3 : Int32)), (.int pruns1_1)])) rfl (by rw [hml]; rfl) (argsL := [(.int pruns1_1), (.int (3 : Int32))]) (rest := []) (lenOf own_pd0 rfl) rfl (by show 2 * 0 + _ ≤ _; exact Nat.le_of_eq rfl) (hb hby own_d1_21) (fun _ _ => ⟨rfl, ekruns1_3, (by decide : 0 + 0 ≤ _), (by decide : 0 + 0 ≤ _)⟩)
  dsimp only [Pt.U, Pt.locs, Pt.cells, Pt.slots] at Xkruns1_4 lkruns1_4 ykruns1_4 zkruns1_4 stkruns1_4 hQkruns1_4
  replace lkruns1_4 := lkruns1_4.symm; replace ykruns1_4 := ykruns1_4.symm; replace zkruns1_4 := zkruns1_4.symm; subst lkruns1_4 ykruns1_4 zkruns1_4
  obtain ⟨rfl, Nkruns1_4q, ekruns1_4⟩ := hQkruns1_4
  have Nkruns1_4 := Fr.app Nkruns1_3 Nkruns1_4q
  obtain ⟨_, _, ⟨Tkruns1_5, Lkruns1_5, kkruns1_5, nkruns1_5⟩, -, Xkruns1_5, ⟨Lckruns1_5, hQkruns1_5, lkruns1_5, ykruns1_5, zkruns1_5⟩, stkruns1_5⟩ := Jvm.LawKit.callS Xkruns1_4 hx (y := (⟨"com/example/arborway/arborway/sim/WalkRunningCountPinLaw", "bit", "(II)Z"⟩ : MethodName)) hown (mvT hZ (own_W hw 5 rfl)) (mvT hZ (own_W hw 6 rfl)) (mvT hZ (own_W hw 3 rfl)) (mvT hZ (own_W hw 7 rfl)) (by decide) (backOf (W := 0) (own_rm2 l Z a0 hw [] pruns1_1 (4 : Int32) h0 n0 Z0) hZ (own_W hw 7 rfl) (own_W hw 3 rfl) (by decide) (by decide)) (g := (mkF m 28 #[.val (.int (1 : Int32)), .val (.int pruns1_1), .val (.int (own_vruns1_0 pruns1_1)), .val (.int (own_vruns1_1 pruns1_1)), .val (.int (own_vruns1_2 pruns1_1)), .val (.int (own_vruns1_3 pruns1_1)), .unset, .unset] [(.int (4 : Int32)), (.int pruns1_1)])) rfl (by rw [hml]; rfl) (argsL := [(.int pruns1_1), (.int (4 : Int32))]) (rest := []) (lenOf own_pd0 rfl) rfl (by show 2 * 0 + _ ≤ _; exact Nat.le_of_eq rfl) (hb hby own_d1_28) (fun _ _ => ⟨rfl, ekruns1_4, (by decide : 0 + 0 ≤ _), (by decide : 0 + 0 ≤ _)⟩)
  dsimp only [Pt.U, Pt.locs, Pt.cells, Pt.slots] at Xkruns1_5 lkruns1_5 ykruns1_5 zkruns1_5 stkruns1_5 hQkruns1_5
  replace lkruns1_5 := lkruns1_5.symm; replace ykruns1_5 := ykruns1_5.symm; replace zkruns1_5 := zkruns1_5.symm; subst lkruns1_5 ykruns1_5 zkruns1_5
  obtain ⟨rfl, Nkruns1_5q, ekruns1_5⟩ := hQkruns1_5
  have Nkruns1_5 := Fr.app Nkruns1_4 Nkruns1_5q
  obtain ⟨_, _, ⟨Tkruns1_6, Lkruns1_6, kkruns1_6, nkruns1_6⟩, -, Xkruns1_6, ⟨Lckruns1_6, hQkruns1_6, lkruns1_6, ykruns1_6, zkruns1_6⟩, stkruns1_6⟩ := Jvm.LawKit.callS Xkruns1_5 hx (y := (⟨"com/example/arborway/arborway/sim/WalkRunningCountPinLaw", "bit", "(II)Z"⟩ : MethodName)) hown (mvT hZ (own_W hw 5 rfl)) (mvT hZ (own_W hw 6 rfl)) (mvT hZ (own_W hw 3 rfl)) (mvT hZ (own_W hw 7 rfl)) (by decide) (backOf (W := 0) (own_rm2 l Z a0 hw [] pruns1_1 (5 : Int32) h0 n0 Z0) hZ (own_W hw 7 rfl) (own_W hw 3 rfl) (by decide) (by decide)) (g := (mkF m 35 #[.val (.int (1 : Int32)), .val (.int pruns1_1), .val (.int (own_vruns1_0 pruns1_1)), .val (.int (own_vruns1_1 pruns1_1)), .val (.int (own_vruns1_2 pruns1_1)), .val (.int (own_vruns1_3 pruns1_1)), .val (.int (own_vruns1_4 pruns1_1)), .unset] [(.int (5 : Int32)), (.int pruns1_1)])) rfl (by rw [hml]; rfl) (argsL := [(.int pruns1_1), (.int (5 : Int32))]) (rest := []) (lenOf own_pd0 rfl) rfl (by show 2 * 0 + _ ≤ _; exact Nat.le_of_eq rfl) (hb hby own_d1_35) (fun _ _ => ⟨rfl, ekruns1_5, (by decide : 0 + 0 ≤ _), (by decide : 0 + 0 ≤ _)⟩)
  dsimp only [Pt.U, Pt.locs, Pt.cells, Pt.slots] at Xkruns1_6 lkruns1_6 ykruns1_6 zkruns1_6 stkruns1_6 hQkruns1_6
  replace lkruns1_6 := lkruns1_6.symm; replace ykruns1_6 := ykruns1_6.symm; replace zkruns1_6 := zkruns1_6.symm; subst lkruns1_6 ykruns1_6 zkruns1_6
  obtain ⟨rfl, Nkruns1_6q, ekruns1_6⟩ := hQkruns1_6
  have Nkruns1_6 := Fr.app Nkruns1_5 Nkruns1_6q
  obtain ⟨Tnruns1_7, hnruns1_7, knruns1_7, Xnruns1_7, enruns1_7, Enruns1_7, Anruns1_7, stnruns1_7⟩ := newP Xkruns1_6 hx hZ (own_W hw 8 rfl) ekruns1_6 (g := (mkF m 54 #[.val (.int (1 : Int32)), .val (.int pruns1_1), .val (.int (own_vruns1_0 pruns1_1)), .val (.int (own_vruns1_1 pruns1_1)), .val (.int (own_vruns1_2 pruns1_1)), .val (.int (own_vruns1_3 pruns1_1)), .val (.int (own_vruns1_4 pruns1_1)), .val (.int (own_vruns1_5 pruns1_1))] [(.int (1 : Int32))])) rfl (hb hby own_d1_54) rfl (by decide) (cap := 1) (by decide) (by decide) (by decide) (by decide)
  obtain ⟨bnruns1_7, gnruns1_7⟩ : ∃ z, z = h0.size := ⟨_, rfl⟩
  rw [← gnruns1_7] at Anruns1_7 stnruns1_7
  have g_bnruns1_7 : n0 ≤ bnruns1_7 := Nat.le_trans Z0 (Nat.le_of_eq gnruns1_7.symm)
  have sz_bnruns1_7 : h0.size ≤ bnruns1_7 := Nat.le_trans Zr (Nat.le_of_eq gnruns1_7.symm)
  have szruns1_8 : h0.size ≤ hnruns1_7.size := Nat.le_trans Zr Enruns1_7.1
  have V_bnruns1_7 : Arv Z hnruns1_7 bnruns1_7 knruns1_7 .boolean (1 : Int32) [(.int (0 : Int32))] (.int (0 : Int32)) := (Arv.new Anruns1_7 (by decide)).pad (pad_rep [] (.int (0 : Int32)) 1)
  have Ooruns1_9 := V_bnruns1_7
  obtain ⟨cloruns1_9, Aroruns1_9, qoruns1_9, Soruns1_9, Noruns1_9, Horuns1_9, Goruns1_9⟩ := Ooruns1_9
  have hinoruns1_9 : ¬ ((0 : Int32) < 0 ∨ cloruns1_9.slots.size ≤ ((0 : Int32)).toNatClampNeg) := inb_of Soruns1_9 ⟨by decide, by decide⟩
  obtain ⟨Toruns1_9, horuns1_9, Xoruns1_9, eoruns1_9, Woruns1_9, storuns1_9⟩ := stZ Xnruns1_7 hx hZ enruns1_7 Aroruns1_9 (j := (0 : Int32)) hinoruns1_9 (g := (mkF m 59 #[.val (.int (1 : Int32)), .val (.int pruns1_1), .val (.int (own_vruns1_0 pruns1_1)), .val (.int (own_vruns1_1 pruns1_1)), .val (.int (own_vruns1_2 pruns1_1)), .val (.int (own_vruns1_3 pruns1_1)), .val (.int (own_vruns1_4 pruns1_1)), .val (.int (own_vruns1_5 pruns1_1))] [(.int (own_vruns1_0 pruns1_1)), (.int (0 : Int32)), (.ref bnruns1_7), (.ref bnruns1_7)])) rfl rfl (hb hby own_d1_59)
  have Vworuns1_9 : Arv Z horuns1_9 bnruns1_7 knruns1_7 .boolean (1 : Int32) [(.int (nar .boolean (own_vruns1_0 pruns1_1)))] (.int (0 : Int32)) := Arv.set Aroruns1_9 qoruns1_9 Soruns1_9 Noruns1_9 Horuns1_9 Goruns1_9 (fits_nar_bool _) Woruns1_9 0 rfl (Nat.le_of_ble_eq_true rfl)
  have szruns1_10 : h0.size ≤ horuns1_9.size := Nat.le_trans szruns1_8 (Nat.le_of_eq Woruns1_9.size.symm)
  have Nforuns1_9 := Fr.snoc Xoruns1_9 Nkruns1_6 g_bnruns1_7
  obtain ⟨fs, hr, hrun, hended, hW, hsame⟩ := Xoruns1_9.leave (v := some (.ref bnruns1_7)) (fun h => by rw [Bd.returns] at h; cases h)
  refine ⟨_, _, pre0 _ (?_), hrun, hended, _, _, rfl, ?_, ⟨_, rfl⟩, hW, hsame.mono (by decide) (by decide)⟩
  · show Steps p.tables e below (s₁.setTop (mkF m 0 #[.val (.int (1 : Int32)), .val (.int pruns1_1), .unset, .unset, .unset, .unset, .unset, .unset] [])) _
    refine XS.iloadN X0.here hx rfl (hb hby own_d1_0) rfl ?_
    refine XS.iconst X0.here hx rfl (hb hby own_d1_1) ?_
    refine stkruns1_1 _ ?_
    show Steps p.tables e below (Tkruns1_1.setTop (mkF m 5 #[.val (.int (1 : Int32)), .val (.int pruns1_1), .unset, .unset, .unset, .unset, .unset, .unset] [(.int (own_r2_1 pruns1_1 (0 : Int32)))])) _
    refine XS.istoreN Xkruns1_1.here hx rfl (hb hby own_d1_5) rfl (l' := #[.val (.int (1 : Int32)), .val (.int pruns1_1), .val (.int (own_vruns1_0 pruns1_1)), .unset, .unset, .unset, .unset, .unset]) rfl ?_
    refine XS.iloadN Xkruns1_1.here hx rfl (hb hby own_d1_6) rfl ?_
    refine XS.iconst Xkruns1_1.here hx rfl (hb hby own_d1_7) ?_
    refine stkruns1_2 _ ?_
    show Steps p.tables e below (Tkruns1_2.setTop (mkF m 11 #[.val (.int (1 : Int32)), .val (.int pruns1_1), .val (.int (own_vruns1_0 pruns1_1)), .unset, .unset, .unset, .unset, .unset] [(.int (own_r2_1 pruns1_1 (1 : Int32)))])) _
    refine XS.istoreN Xkruns1_2.here hx rfl (hb hby own_d1_11) rfl (l' := #[.val (.int (1 : Int32)), .val (.int pruns1_1), .val (.int (own_vruns1_0 pruns1_1)), .val (.int (own_vruns1_1 pruns1_1)), .unset, .unset, .unset, .unset]) rfl ?_
    refine XS.iloadN Xkruns1_2.here hx rfl (hb hby own_d1_12) rfl ?_
    refine XS.iconst Xkruns1_2.here hx rfl (hb hby own_d1_13) ?_
    refine stkruns1_3 _ ?_
    show Steps p.tables e below (Tkruns1_3.setTop (mkF m 17 #[.val (.int (1 : Int32)), .val (.int pruns1_1), .val (.int (own_vruns1_0 pruns1_1)), .val (.int (own_vruns1_1 pruns1_1)), .unset, .unset, .unset, .unset] [(.int (own_r2_1 pruns1_1 (2 : Int32)))])) _
    refine XS.istore Xkruns1_3.here hx rfl (hb hby own_d1_17) rfl (l' := #[.val (.int (1 : Int32)), .val (.int pruns1_1), .val (.int (own_vruns1_0 pruns1_1)), .val (.int (own_vruns1_1 pruns1_1)), .val (.int (own_vruns1_2 pruns1_1)), .unset, .unset, .unset]) rfl ?_
    refine XS.iloadN Xkruns1_3.here hx rfl (hb hby own_d1_19) rfl ?_
    refine XS.iconst Xkruns1_3.here hx rfl (hb hby own_d1_20) ?_
    refine stkruns1_4 _ ?_
    show Steps p.tables e below (Tkruns1_4.setTop (mkF m 24 #[.val (.int (1 : Int32)), .val (.int pruns1_1), .val (.int (own_vruns1_0 pruns1_1)), .val (.int (own_vruns1_1 pruns1_1)), .val (.int (own_vruns1_2 pruns1_1)), .unset, .unset, .unset] [(.int (own_r2_1 pruns1_1 (3 : Int32)))])) _
    refine XS.istore Xkruns1_4.here hx rfl (hb hby own_d1_24) rfl (l' := #[.val (.int (1 : Int32)), .val (.int pruns1_1), .val (.int (own_vruns1_0 pruns1_1)), .val (.int (own_vruns1_1 pruns1_1)), .val (.int (own_vruns1_2 pruns1_1)), .val (.int (own_vruns1_3 pruns1_1)), .unset, .unset]) rfl ?_
    refine XS.iloadN Xkruns1_4.here hx rfl (hb hby own_d1_26) rfl ?_
    refine XS.iconst Xkruns1_4.here hx rfl (hb hby own_d1_27) ?_
    refine stkruns1_5 _ ?_
    show Steps p.tables e below (Tkruns1_5.setTop (mkF m 31 #[.val (.int (1 : Int32)), .val (.int pruns1_1), .val (.int (own_vruns1_0 pruns1_1)), .val (.int (own_vruns1_1 pruns1_1)), .val (.int (own_vruns1_2 pruns1_1)), .val (.int (own_vruns1_3 pruns1_1)), .unset, .unset] [(.int (own_r2_1 pruns1_1 (4 : Int32)))])) _
    refine XS.istore Xkruns1_5.here hx rfl (hb hby own_d1_31) rfl (l' := #[.val (.int (1 : Int32)), .val (.int pruns1_1), .val (.int (own_vruns1_0 pruns1_1)), .val (.int (own_vruns1_1 pruns1_1)), .val (.int (own_vruns1_2 pruns1_1)), .val (.int (own_vruns1_3 pruns1_1)), .val (.int (own_vruns1_4 pruns1_1)), .unset]) rfl ?_
    refine XS.iloadN Xkruns1_5.here hx rfl (hb hby own_d1_33) rfl ?_
    refine XS.iconst Xkruns1_5.here hx rfl (hb hby own_d1_34) ?_
    refine stkruns1_6 _ ?_
    show Steps p.tables e below (Tkruns1_6.setTop (mkF m 38 #[.val (.int (1 : Int32)), .val (.int pruns1_1), .val (.int (own_vruns1_0 pruns1_1)), .val (.int (own_vruns1_1 pruns1_1)), .val (.int (own_vruns1_2 pruns1_1)), .val (.int (own_vruns1_3 pruns1_1)), .val (.int (own_vruns1_4 pruns1_1)), .unset] [(.int (own_r2_1 pruns1_1 (5 : Int32)))])) _
    refine XS.istore Xkruns1_6.here hx rfl (hb hby own_d1_38) rfl (l' := #[.val (.int (1 : Int32)), .val (.int pruns1_1), .val (.int (own_vruns1_0 pruns1_1)), .val (.int (own_vruns1_1 pruns1_1)), .val (.int (own_vruns1_2 pruns1_1)), .val (.int (own_vruns1_3 pruns1_1)), .val (.int (own_vruns1_4 pruns1_1)), .val (.int (own_vruns1_5 pruns1_1))]) rfl ?_
    refine XS.iloadN Xkruns1_6.here hx rfl (hb hby own_d1_40) rfl ?_
    refine XS.ifYes Xkruns1_6.here hx rfl (pc0 := 41) (pc' := 48) rfl (hb hby own_d1_41) rfl (XT.i0_ne_t (by decide : ¬ ((1 : Int32) = (0 : Int32)))) (by decide) (by decide) ?_
    refine XS.iloadN Xkruns1_6.here hx rfl (hb hby own_d1_48) rfl ?_
    refine XS.iconst Xkruns1_6.here hx rfl (hb hby own_d1_49) ?_
    refine XS.icmpNo Xkruns1_6.here hx rfl (hb hby own_d1_50) rfl (XT.ii_ne_f (by decide : (1 : Int32) = (1 : Int32))) ?_
    refine XS.iconst Xkruns1_6.here hx rfl (hb hby own_d1_53) ?_
    refine stnruns1_7 _ ?_
    show Steps p.tables e below (Tnruns1_7.setTop (mkF m 56 #[.val (.int (1 : Int32)), .val (.int pruns1_1), .val (.int (own_vruns1_0 pruns1_1)), .val (.int (own_vruns1_1 pruns1_1)), .val (.int (own_vruns1_2 pruns1_1)), .val (.int (own_vruns1_3 pruns1_1)), .val (.int (own_vruns1_4 pruns1_1)), .val (.int (own_vruns1_5 pruns1_1))] [(.ref bnruns1_7)])) _
    refine XS.dup Xnruns1_7.here hx rfl (hb hby own_d1_56) rfl rfl ?_
    refine XS.iconst Xnruns1_7.here hx rfl (hb hby own_d1_57) ?_
    refine XS.iloadN Xnruns1_7.here hx rfl (hb hby own_d1_58) rfl ?_
    refine storuns1_9 _ ?_
    show Steps p.tables e below (Toruns1_9.setTop (mkF m 60 #[.val (.int (1 : Int32)), .val (.int pruns1_1), .val (.int (own_vruns1_0 pruns1_1)), .val (.int (own_vruns1_1 pruns1_1)), .val (.int (own_vruns1_2 pruns1_1)), .val (.int (own_vruns1_3 pruns1_1)), .val (.int (own_vruns1_4 pruns1_1)), .val (.int (own_vruns1_5 pruns1_1))] [(.ref bnruns1_7)])) _
    jvm_step Xoruns1_9.here [Xoruns1_9.here.top, hx, (hb hby own_d1_60), Xoruns1_9.method', Bd.returns, Value.isRef, FieldType.isReference]
    first | (intro acts; rw [hr _ acts rfl rfl rfl]) | rw [hr _ _ rfl rfl rfl]
    exact Steps.refl _
  · show own_Qruns1 Z pruns1_1 h0 n0 _ Toruns1_9.heap _
    rw [eoruns1_9]
    exact ⟨bnruns1_7, knruns1_7, rfl, Nforuns1_9, (((Keep.refl h0 []).ext Enruns1_7).wr Woruns1_9 (Or.inr sz_bnruns1_7)), sz_bnruns1_7, Vworuns1_9⟩
theorem own_d1_61 : decode method_3_code 61 = .ok (.iload_n 0, 1) := by decide +kernel
theorem own_d1_62 : decode method_3_code 62 = .ok (.iconst 2, 1) := by decide +kernel
theorem own_d1_63 : decode method_3_code 63 = .ok (.if_icmp .ne 15, 3) := by decide +kernel
theorem own_d1_66 : decode method_3_code 66 = .ok (.iconst 2, 1) := by decide +kernel
theorem own_d1_67 : decode method_3_code 67 = .ok (.newarray .boolean, 2) := by decide +kernel
theorem own_d1_69 : decode method_3_code 69 = .ok (.dup, 1) := by decide +kernel
theorem own_d1_70 : decode method_3_code 70 = .ok (.iconst 0, 1) := by decide +kernel
theorem own_d1_71 : decode method_3_code 71 = .ok (.iload_n 2, 1) := by decide +kernel
theorem own_d1_72 : decode method_3_code 72 = .ok (.bastore, 1) := by decide +kernel
theorem own_d1_73 : decode method_3_code 73 = .ok (.dup, 1) := by decide +kernel
theorem own_d1_74 : decode method_3_code 74 = .ok (.iconst 1, 1) := by decide +kernel
theorem own_d1_75 : decode method_3_code 75 = .ok (.iload_n 3, 1) := by decide +kernel
theorem own_d1_76 : decode method_3_code 76 = .ok (.bastore, 1) := by decide +kernel
theorem own_d1_77 : decode method_3_code 77 = .ok (.areturn, 1) := by decide +kernel
def own_vruns2_0 (pruns2_1 : Int32) : Int32 := (own_r2_1 pruns2_1 (0 : Int32))
def own_vruns2_1 (pruns2_1 : Int32) : Int32 := (own_r2_1 pruns2_1 (1 : Int32))
def own_vruns2_2 (pruns2_1 : Int32) : Int32 := (own_r2_1 pruns2_1 (2 : Int32))
def own_vruns2_3 (pruns2_1 : Int32) : Int32 := (own_r2_1 pruns2_1 (3 : Int32))
def own_vruns2_4 (pruns2_1 : Int32) : Int32 := (own_r2_1 pruns2_1 (4 : Int32))
def own_vruns2_5 (pruns2_1 : Int32) : Int32 := (own_r2_1 pruns2_1 (5 : Int32))
theorem own_efruns2 (m : MethodId) (pruns2_1 : Int32) : entryFrame m #[(.int (2 : Int32)), (.int pruns2_1)] 8 = mkF m 0 #[.val (.int (2 : Int32)), .val (.int pruns2_1), .unset, .unset, .unset, .unset, .unset, .unset] [] := by first | (simp [entryFrame, mkF, argsToLocals, Value.category]; done) | rfl
def own_Qruns2 (Z : State) (pruns2_1 : Int32) (h0 : Heap) (n0 : Nat) (v : Option Value) (h : Heap) (L : List Loc) : Prop := ∃ (bnruns2_7 : Addr) (knruns2_7 : ClassId), v = some (.ref bnruns2_7) ∧ Fr n0 L ∧ Keep h0 h [] ∧ h0.size ≤ bnruns2_7 ∧ Arv Z h bnruns2_7 knruns2_7 .boolean (2 : Int32) [(.int (nar .boolean (own_vruns2_0 pruns2_1))), (.int (nar .boolean (own_vruns2_1 pruns2_1)))] (.int (0 : Int32))
set_option maxRecDepth 65536 in
set_option maxHeartbeats 40000000 in
theorem own_rmruns2 (l : Launch) (Z : State) (a0 : Array Value) (hw : ∀ d ∈ tables_1, d.before a0 Z = true) (ws : List Jvm.Cond) (pruns2_1 : Int32) (h0 : Heap) (n0 : Nat) (Z0 : n0 ≤ h0.size) :
    MetFree l (⟨"com/example/arborway/arborway/sim/WalkRunningCountPinLaw", "runs", "(II)[Z"⟩ : MethodName) (head1 (Jvm.Cond.code (⟨"com/example/arborway/arborway/sim/WalkRunningCountPinLaw", "runs", "(II)[Z"⟩ : MethodName) method_3_code 8 (some (.array .boolean)) :: ws) ({ frames := 1, cells := 1, slots := 2, locals := 13 } : Room)) (fun a U => a = #[(.int (2 : Int32)), (.int pruns2_1)] ∧ Z.Warmed39 U.vm ∧ U.heap = h0) (fun _ _ _ _ _ => True) (fun _ U o U' => ∃ v L, o = .returned v ∧ own_Qruns2 Z pruns2_1 h0 n0 v U'.heap L ∧ FrameEnd U o U' L ({ frames := 1, cells := 1, slots := 2, locals := 13 } : Room).cells ({ frames := 1, cells := 1, slots := 2, locals := 13 } : Room).slots) := by
  refine MetFree.of_bodySF (plainFor_of_name own_pn0) hisR ?_
  intro p e s m args below meth c s₁ Bd hml0 hP hK
  obtain ⟨rfl, hZ, hh⟩ := hP
  have hx := Bd.exec
  have hby := Bd.bytes
  have hml : c.maxLocals = 8 := hml0
  have hown : s.vm.findClass "com/example/arborway/arborway/sim/WalkRunningCountPinLaw" = some m.cls := findClass_of_methodNamed Bd.named
  have hnm := (name_of_methodNamed Bd.named Bd.method).1
  have X0 : Stand p l e ({ frames := 1, cells := 1, slots := 2, locals := 13 } : Room) s m #[(.int (2 : Int32)), (.int pruns2_1)] below meth c s₁ [] 0 0 := Stand.of_body Bd
  have e0 : s₁.heap = h0 := by rw [← hh, Bd.state]; rfl
  have N0 := Fr.nil n0
  have Zr : h0.size ≤ h0.size := Nat.le_refl _
  have pre0 : ∀ t, Steps p.tables e below (s₁.setTop (mkF m 0 #[.val (.int (2 : Int32)), .val (.int pruns2_1), .unset, .unset, .unset, .unset, .unset, .unset] [])) t → Steps p.tables e below (s₁.setTop (entryFrame m #[(.int (2 : Int32)), (.int pruns2_1)] 8)) t := fun t k => castTop (own_efruns2 m pruns2_1) k
  obtain ⟨_, _, ⟨Tkruns2_1, Lkruns2_1, kkruns2_1, nkruns2_1⟩, -, Xkruns2_1, ⟨Lckruns2_1, hQkruns2_1, lkruns2_1, ykruns2_1, zkruns2_1⟩, stkruns2_1⟩ := Jvm.LawKit.callS X0 hx (y := (⟨"com/example/arborway/arborway/sim/WalkRunningCountPinLaw", "bit", "(II)Z"⟩ : MethodName)) hown (mvT hZ (own_W hw 5 rfl)) (mvT hZ (own_W hw 6 rfl)) (mvT hZ (own_W hw 3 rfl)) (mvT hZ (own_W hw 7 rfl)) (by decide) (backOf (W := 0) (own_rm2 l Z a0 hw [] pruns2_1 (0 : Int32) h0 n0 Z0) hZ (own_W hw 7 rfl) (own_W hw 3 rfl) (by decide) (by decide)) (g := (mkF m 2 #[.val (.int (2 : Int32)), .val (.int pruns2_1), .unset, .unset, .unset, .unset, .unset, .unset] [(.int (0 : Int32)), (.int pruns2_1)])) rfl (by rw [hml]; rfl) (argsL := [(.int pruns2_1), (.int (0 : Int32))]) (rest := []) (lenOf own_pd0 rfl) rfl (by show 2 * 0 + _ ≤ _; exact Nat.le_of_eq rfl) (hb hby own_d1_2) (fun _ _ => ⟨rfl, e0, (by decide : 0 + 0 ≤ _), (by decide : 0 + 0 ≤ _)⟩)
  dsimp only [Pt.U, Pt.locs, Pt.cells, Pt.slots] at Xkruns2_1 lkruns2_1 ykruns2_1 zkruns2_1 stkruns2_1 hQkruns2_1
  replace lkruns2_1 := lkruns2_1.symm; replace ykruns2_1 := ykruns2_1.symm; replace zkruns2_1 := zkruns2_1.symm; subst lkruns2_1 ykruns2_1 zkruns2_1
  obtain ⟨rfl, Nkruns2_1q, ekruns2_1⟩ := hQkruns2_1
  have Nkruns2_1 := Fr.app N0 Nkruns2_1q
  obtain ⟨_, _, ⟨Tkruns2_2, Lkruns2_2, kkruns2_2, nkruns2_2⟩, -, Xkruns2_2, ⟨Lckruns2_2, hQkruns2_2, lkruns2_2, ykruns2_2, zkruns2_2⟩, stkruns2_2⟩ := Jvm.LawKit.callS Xkruns2_1 hx (y := (⟨"com/example/arborway/arborway/sim/WalkRunningCountPinLaw", "bit", "(II)Z"⟩ : MethodName)) hown (mvT hZ (own_W hw 5 rfl)) (mvT hZ (own_W hw 6 rfl)) (mvT hZ (own_W hw 3 rfl)) (mvT hZ (own_W hw 7 rfl)) (by decide) (backOf (W := 0) (own_rm2 l Z a0 hw [] pruns2_1 (1 : Int32) h0 n0 Z0) hZ (own_W hw 7 rfl) (own_W hw 3 rfl) (by decide) (by decide)) (g := (mkF m 8 #[.val (.int (2 : Int32)), .val (.int pruns2_1), .val (.int (own_vruns2_0 pruns2_1)), .unset, .unset, .unset, .unset, .unset] [(.int (1 : Int32)), (.int pruns2_1)])) rfl (by rw [hml]; rfl) (argsL := [(.int pruns2_1), (.int (1 : Int32))]) (rest := []) (lenOf own_pd0 rfl) rfl (by show 2 * 0 + _ ≤ _; exact Nat.le_of_eq rfl) (hb hby own_d1_8) (fun _ _ => ⟨rfl, ekruns2_1, (by decide : 0 + 0 ≤ _), (by decide : 0 + 0 ≤ _)⟩)
  dsimp only [Pt.U, Pt.locs, Pt.cells, Pt.slots] at Xkruns2_2 lkruns2_2 ykruns2_2 zkruns2_2 stkruns2_2 hQkruns2_2
  replace lkruns2_2 := lkruns2_2.symm; replace ykruns2_2 := ykruns2_2.symm; replace zkruns2_2 := zkruns2_2.symm; subst lkruns2_2 ykruns2_2 zkruns2_2
  obtain ⟨rfl, Nkruns2_2q, ekruns2_2⟩ := hQkruns2_2
  have Nkruns2_2 := Fr.app Nkruns2_1 Nkruns2_2q
  obtain ⟨_, _, ⟨Tkruns2_3, Lkruns2_3, kkruns2_3, nkruns2_3⟩, -, Xkruns2_3, ⟨Lckruns2_3, hQkruns2_3, lkruns2_3, ykruns2_3, zkruns2_3⟩, stkruns2_3⟩ := Jvm.LawKit.callS Xkruns2_2 hx (y := (⟨"com/example/arborway/arborway/sim/WalkRunningCountPinLaw", "bit", "(II)Z"⟩ : MethodName)) hown (mvT hZ (own_W hw 5 rfl)) (mvT hZ (own_W hw 6 rfl)) (mvT hZ (own_W hw 3 rfl)) (mvT hZ (own_W hw 7 rfl)) (by decide) (backOf (W := 0) (own_rm2 l Z a0 hw [] pruns2_1 (2 : Int32) h0 n0 Z0) hZ (own_W hw 7 rfl) (own_W hw 3 rfl) (by decide) (by decide)) (g := (mkF m 14 #[.val (.int (2 : Int32)), .val (.int pruns2_1), .val (.int (own_vruns2_0 pruns2_1)), .val (.int (own_vruns2_1 pruns2_1)), .unset, .unset, .unset, .unset] [(.int (2 : Int32)), (.int pruns2_1)])) rfl (by rw [hml]; rfl) (argsL := [(.int pruns2_1), (.int (2 : Int32))]) (rest := []) (lenOf own_pd0 rfl) rfl (by show 2 * 0 + _ ≤ _; exact Nat.le_of_eq rfl) (hb hby own_d1_14) (fun _ _ => ⟨rfl, ekruns2_2, (by decide : 0 + 0 ≤ _), (by decide : 0 + 0 ≤ _)⟩)
  dsimp only [Pt.U, Pt.locs, Pt.cells, Pt.slots] at Xkruns2_3 lkruns2_3 ykruns2_3 zkruns2_3 stkruns2_3 hQkruns2_3
  replace lkruns2_3 := lkruns2_3.symm; replace ykruns2_3 := ykruns2_3.symm; replace zkruns2_3 := zkruns2_3.symm; subst lkruns2_3 ykruns2_3 zkruns2_3
  obtain ⟨rfl, Nkruns2_3q, ekruns2_3⟩ := hQkruns2_3
  have Nkruns2_3 := Fr.app Nkruns2_2 Nkruns2_3q
  obtain ⟨_, _, ⟨Tkruns2_4, Lkruns2_4, kkruns2_4, nkruns2_4⟩, -, Xkruns2_4, ⟨Lckruns2_4, hQkruns2_4, lkruns2_4, ykruns2_4, zkruns2_4⟩, stkruns2_4⟩ := Jvm.LawKit.callS Xkruns2_3 hx (y := (⟨"com/example/arborway/arborway/sim/WalkRunningCountPinLaw", "bit", "(II)Z"⟩ : MethodName)) hown (mvT hZ (own_W hw 5 rfl)) (mvT hZ (own_W hw 6 rfl)) (mvT hZ (own_W hw 3 rfl)) (mvT hZ (own_W hw 7 rfl)) (by decide) (backOf (W := 0) (own_rm2 l Z a0 hw [] pruns2_1 (3 : Int32) h0 n0 Z0) hZ (own_W hw 7 rfl) (own_W hw 3 rfl) (by decide) (by decide)) (g := (mkF m 21 #[.val (.int (2 : Int32)), .val (.int pruns2_1), .val (.int (own_vruns2_0 pruns2_1)), .val (.int (own_vruns2_1 pruns2_1)), .val (.int (own_vruns2_2 pruns2_1)), .unset, .unset, .unset] [(.int (3 : Int32)), (.int pruns2_1)])) rfl (by rw [hml]; rfl) (argsL := [(.int pruns2_1), (.int (3 : Int32))]) (rest := []) (lenOf own_pd0 rfl) rfl (by show 2 * 0 + _ ≤ _; exact Nat.le_of_eq rfl) (hb hby own_d1_21) (fun _ _ => ⟨rfl, ekruns2_3, (by decide : 0 + 0 ≤ _), (by decide : 0 + 0 ≤ _)⟩)
  dsimp only [Pt.U, Pt.locs, Pt.cells, Pt.slots] at Xkruns2_4 lkruns2_4 ykruns2_4 zkruns2_4 stkruns2_4 hQkruns2_4
  replace lkruns2_4 := lkruns2_4.symm; replace ykruns2_4 := ykruns2_4.symm; replace zkruns2_4 := zkruns2_4.symm; subst lkruns2_4 ykruns2_4 zkruns2_4
  obtain ⟨rfl, Nkruns2_4q, ekruns2_4⟩ := hQkruns2_4
  have Nkruns2_4 := Fr.app Nkruns2_3 Nkruns2_4q
  obtain ⟨_, _, ⟨Tkruns2_5, Lkruns2_5, kkruns2_5, nkruns2_5⟩, -, Xkruns2_5, ⟨Lckruns2_5, hQkruns2_5, lkruns2_5, ykruns2_5, zkruns2_5⟩, stkruns2_5⟩ := Jvm.LawKit.callS Xkruns2_4 hx (y := (⟨"com/example/arborway/arborway/sim/WalkRunningCountPinLaw", "bit", "(II)Z"⟩ : MethodName)) hown (mvT hZ (own_W hw 5 rfl)) (mvT hZ (own_W hw 6 rfl)) (mvT hZ (own_W hw 3 rfl)) (mvT hZ (own_W hw 7 rfl)) (by decide) (backOf (W := 0) (own_rm2 l Z a0 hw [] pruns2_1 (4 : Int32) h0 n0 Z0) hZ (own_W hw 7 rfl) (own_W hw 3 rfl) (by decide) (by decide)) (g := (mkF m 28 #[.val (.int (2 : Int32)), .val (.int pruns2_1), .val (.int (own_vruns2_0 pruns2_1)), .val (.int (own_vruns2_1 pruns2_1)), .val (.int (own_vruns2_2 pruns2_1)), .val (.int (own_vruns2_3 pruns2_1)), .unset, .unset] [(.int (4 : Int32)), (.int pruns2_1)])) rfl (by rw [hml]; rfl) (argsL := [(.int pruns2_1), (.int (4 : Int32))]) (rest := []) (lenOf own_pd0 rfl) rfl (by show 2 * 0 + _ ≤ _; exact Nat.le_of_eq rfl) (hb hby own_d1_28) (fun _ _ => ⟨rfl, ekruns2_4, (by decide : 0 + 0 ≤ _), (by decide : 0 + 0 ≤ _)⟩)
  dsimp only [Pt.U, Pt.locs, Pt.cells, Pt.slots] at Xkruns2_5 lkruns2_5 ykruns2_5 zkruns2_5 stkruns2_5 hQkruns2_5
  replace lkruns2_5 := lkruns2_5.symm; replace ykruns2_5 := ykruns2_5.symm; replace zkruns2_5 := zkruns2_5.symm; subst lkruns2_5 ykruns2_5 zkruns2_5
  obtain ⟨rfl, Nkruns2_5q, ekruns2_5⟩ := hQkruns2_5
  have Nkruns2_5 := Fr.app Nkruns2_4 Nkruns2_5q
  obtain ⟨_, _, ⟨Tkruns2_6, Lkruns2_6, kkruns2_6, nkruns2_6⟩, -, Xkruns2_6, ⟨Lckruns2_6, hQkruns2_6, lkruns2_6, ykruns2_6, zkruns2_6⟩, stkruns2_6⟩ := Jvm.LawKit.callS Xkruns2_5 hx (y := (⟨"com/example/arborway/arborway/sim/WalkRunningCountPinLaw", "bit", "(II)Z"⟩ : MethodName)) hown (mvT hZ (own_W hw 5 rfl)) (mvT hZ (own_W hw 6 rfl)) (mvT hZ (own_W hw 3 rfl)) (mvT hZ (own_W hw 7 rfl)) (by decide) (backOf (W := 0) (own_rm2 l Z a0 hw [] pruns2_1 (5 : Int32) h0 n0 Z0) hZ (own_W hw 7 rfl) (own_W hw 3 rfl) (by decide) (by decide)) (g := (mkF m 35 #[.val (.int (2 : Int32)), .val (.int pruns2_1), .val (.int (own_vruns2_0 pruns2_1)), .val (.int (own_vruns2_1 pruns2_1)), .val (.int (own_vruns2_2 pruns2_1)), .val (.int (own_vruns2_3 pruns2_1)), .val (.int (own_vruns2_4 pruns2_1)), .unset] [(.int (5 : Int32)), (.int pruns2_1)])) rfl (by rw [hml]; rfl) (argsL := [(.int pruns2_1), (.int (5 : Int32))]) (rest := []) (lenOf own_pd0 rfl) rfl (by show 2 * 0 + _ ≤ _; exact Nat.le_of_eq rfl) (hb hby own_d1_35) (fun _ _ => ⟨rfl, ekruns2_5, (by decide : 0 + 0 ≤ _), (by decide : 0 + 0 ≤ _)⟩)
  dsimp only [Pt.U, Pt.locs, Pt.cells, Pt.slots] at Xkruns2_6 lkruns2_6 ykruns2_6 zkruns2_6 stkruns2_6 hQkruns2_6
  replace lkruns2_6 := lkruns2_6.symm; replace ykruns2_6 := ykruns2_6.symm; replace zkruns2_6 := zkruns2_6.symm; subst lkruns2_6 ykruns2_6 zkruns2_6
  obtain ⟨rfl, Nkruns2_6q, ekruns2_6⟩ := hQkruns2_6
  have Nkruns2_6 := Fr.app Nkruns2_5 Nkruns2_6q
  obtain ⟨Tnruns2_7, hnruns2_7, knruns2_7, Xnruns2_7, enruns2_7, Enruns2_7, Anruns2_7, stnruns2_7⟩ := newP Xkruns2_6 hx hZ (own_W hw 8 rfl) ekruns2_6 (g := (mkF m 67 #[.val (.int (2 : Int32)), .val (.int pruns2_1), .val (.int (own_vruns2_0 pruns2_1)), .val (.int (own_vruns2_1 pruns2_1)), .val (.int (own_vruns2_2 pruns2_1)), .val (.int (own_vruns2_3 pruns2_1)), .val (.int (own_vruns2_4 pruns2_1)), .val (.int (own_vruns2_5 pruns2_1))] [(.int (2 : Int32))])) rfl (hb hby own_d1_67) rfl (by decide) (cap := 2) (by decide) (by decide) (by decide) (by decide)
  obtain ⟨bnruns2_7, gnruns2_7⟩ : ∃ z, z = h0.size := ⟨_, rfl⟩
  rw [← gnruns2_7] at Anruns2_7 stnruns2_7
  have g_bnruns2_7 : n0 ≤ bnruns2_7 := Nat.le_trans Z0 (Nat.le_of_eq gnruns2_7.symm)
  have sz_bnruns2_7 : h0.size ≤ bnruns2_7 := Nat.le_trans Zr (Nat.le_of_eq gnruns2_7.symm)
  have szruns2_8 : h0.size ≤ hnruns2_7.size := Nat.le_trans Zr Enruns2_7.1
  have V_bnruns2_7 : Arv Z hnruns2_7 bnruns2_7 knruns2_7 .boolean (2 : Int32) [(.int (0 : Int32)), (.int (0 : Int32))] (.int (0 : Int32)) := (Arv.new Anruns2_7 (by decide)).pad (pad_rep [] (.int (0 : Int32)) 2)
  have Ooruns2_9 := V_bnruns2_7
  obtain ⟨cloruns2_9, Aroruns2_9, qoruns2_9, Soruns2_9, Noruns2_9, Horuns2_9, Goruns2_9⟩ := Ooruns2_9
  have hinoruns2_9 : ¬ ((0 : Int32) < 0 ∨ cloruns2_9.slots.size ≤ ((0 : Int32)).toNatClampNeg) := inb_of Soruns2_9 ⟨by decide, by decide⟩
  obtain ⟨Toruns2_9, horuns2_9, Xoruns2_9, eoruns2_9, Woruns2_9, storuns2_9⟩ := stZ Xnruns2_7 hx hZ enruns2_7 Aroruns2_9 (j := (0 : Int32)) hinoruns2_9 (g := (mkF m 72 #[.val (.int (2 : Int32)), .val (.int pruns2_1), .val (.int (own_vruns2_0 pruns2_1)), .val (.int (own_vruns2_1 pruns2_1)), .val (.int (own_vruns2_2 pruns2_1)), .val (.int (own_vruns2_3 pruns2_1)), .val (.int (own_vruns2_4 pruns2_1)), .val (.int (own_vruns2_5 pruns2_1))] [(.int (own_vruns2_0 pruns2_1)), (.int (0 : Int32)), (.ref bnruns2_7), (.ref bnruns2_7)])) rfl rfl (hb hby own_d1_72)
  have Vworuns2_9 : Arv Z horuns2_9 bnruns2_7 knruns2_7 .boolean (2 : Int32) [(.int (nar .boolean (own_vruns2_0 pruns2_1))), (.int (0 : Int32))] (.int (0 : Int32)) := Arv.set Aroruns2_9 qoruns2_9 Soruns2_9 Noruns2_9 Horuns2_9 Goruns2_9 (fits_nar_bool _) Woruns2_9 0 rfl (Nat.le_of_ble_eq_true rfl)
  have szruns2_10 : h0.size ≤ horuns2_9.size := Nat.le_trans szruns2_8 (Nat.le_of_eq Woruns2_9.size.symm)
  have Nforuns2_9 := Fr.snoc Xoruns2_9 Nkruns2_6 g_bnruns2_7
  have Ooruns2_11 := Vworuns2_9
  obtain ⟨cloruns2_11, Aroruns2_11, qoruns2_11, Soruns2_11, Noruns2_11, Horuns2_11, Goruns2_11⟩ := Ooruns2_11
  have hinoruns2_11 : ¬ ((1 : Int32) < 0 ∨ cloruns2_11.slots.size ≤ ((1 : Int32)).toNatClampNeg) := inb_of Soruns2_11 ⟨by decide, by decide⟩
  obtain ⟨Toruns2_11, horuns2_11, Xoruns2_11, eoruns2_11, Woruns2_11, storuns2_11⟩ := stZ Xoruns2_9 hx hZ eoruns2_9 Aroruns2_11 (j := (1 : Int32)) hinoruns2_11 (g := (mkF m 76 #[.val (.int (2 : Int32)), .val (.int pruns2_1), .val (.int (own_vruns2_0 pruns2_1)), .val (.int (own_vruns2_1 pruns2_1)), .val (.int (own_vruns2_2 pruns2_1)), .val (.int (own_vruns2_3 pruns2_1)), .val (.int (own_vruns2_4 pruns2_1)), .val (.int (own_vruns2_5 pruns2_1))] [(.int (own_vruns2_1 pruns2_1)), (.int (1 : Int32)), (.ref bnruns2_7), (.ref bnruns2_7)])) rfl rfl (hb hby own_d1_76)
  have Vworuns2_11 : Arv Z horuns2_11 bnruns2_7 knruns2_7 .boolean (2 : Int32) [(.int (nar .boolean (own_vruns2_0 pruns2_1))), (.int (nar .boolean (own_vruns2_1 pruns2_1)))] (.int (0 : Int32)) := Arv.set Aroruns2_11 qoruns2_11 Soruns2_11 Noruns2_11 Horuns2_11 Goruns2_11 (fits_nar_bool _) Woruns2_11 1 rfl (Nat.le_of_ble_eq_true rfl)
  have szruns2_12 : h0.size ≤ horuns2_11.size := Nat.le_trans szruns2_10 (Nat.le_of_eq Woruns2_11.size.symm)
  have Nforuns2_11 := Fr.snoc Xoruns2_11 Nforuns2_9 g_bnruns2_7
  obtain ⟨fs, hr, hrun, hended, hW, hsame⟩ := Xoruns2_11.leave (v := some (.ref bnruns2_7)) (fun h => by rw [Bd.returns] at h; cases h)
  refine ⟨_, _, pre0 _ (?_), hrun, hended, _, _, rfl, ?_, ⟨_, rfl⟩, hW, hsame.mono (by decide) (by decide)⟩
  · show Steps p.tables e below (s₁.setTop (mkF m 0 #[.val (.int (2 : Int32)), .val (.int pruns2_1), .unset, .unset, .unset, .unset, .unset, .unset] [])) _
    refine XS.iloadN X0.here hx rfl (hb hby own_d1_0) rfl ?_
    refine XS.iconst X0.here hx rfl (hb hby own_d1_1) ?_
    refine stkruns2_1 _ ?_
    show Steps p.tables e below (Tkruns2_1.setTop (mkF m 5 #[.val (.int (2 : Int32)), .val (.int pruns2_1), .unset, .unset, .unset, .unset, .unset, .unset] [(.int (own_r2_1 pruns2_1 (0 : Int32)))])) _
    refine XS.istoreN Xkruns2_1.here hx rfl (hb hby own_d1_5) rfl (l' := #[.val (.int (2 : Int32)), .val (.int pruns2_1), .val (.int (own_vruns2_0 pruns2_1)), .unset, .unset, .unset, .unset, .unset]) rfl ?_
    refine XS.iloadN Xkruns2_1.here hx rfl (hb hby own_d1_6) rfl ?_
    refine XS.iconst Xkruns2_1.here hx rfl (hb hby own_d1_7) ?_
    refine stkruns2_2 _ ?_
    show Steps p.tables e below (Tkruns2_2.setTop (mkF m 11 #[.val (.int (2 : Int32)), .val (.int pruns2_1), .val (.int (own_vruns2_0 pruns2_1)), .unset, .unset, .unset, .unset, .unset] [(.int (own_r2_1 pruns2_1 (1 : Int32)))])) _
    refine XS.istoreN Xkruns2_2.here hx rfl (hb hby own_d1_11) rfl (l' := #[.val (.int (2 : Int32)), .val (.int pruns2_1), .val (.int (own_vruns2_0 pruns2_1)), .val (.int (own_vruns2_1 pruns2_1)), .unset, .unset, .unset, .unset]) rfl ?_
    refine XS.iloadN Xkruns2_2.here hx rfl (hb hby own_d1_12) rfl ?_
    refine XS.iconst Xkruns2_2.here hx rfl (hb hby own_d1_13) ?_
    refine stkruns2_3 _ ?_
    show Steps p.tables e below (Tkruns2_3.setTop (mkF m 17 #[.val (.int (2 : Int32)), .val (.int pruns2_1), .val (.int (own_vruns2_0 pruns2_1)), .val (.int (own_vruns2_1 pruns2_1)), .unset, .unset, .unset, .unset] [(.int (own_r2_1 pruns2_1 (2 : Int32)))])) _
    refine XS.istore Xkruns2_3.here hx rfl (hb hby own_d1_17) rfl (l' := #[.val (.int (2 : Int32)), .val (.int pruns2_1), .val (.int (own_vruns2_0 pruns2_1)), .val (.int (own_vruns2_1 pruns2_1)), .val (.int (own_vruns2_2 pruns2_1)), .unset, .unset, .unset]) rfl ?_
    refine XS.iloadN Xkruns2_3.here hx rfl (hb hby own_d1_19) rfl ?_
    refine XS.iconst Xkruns2_3.here hx rfl (hb hby own_d1_20) ?_
    refine stkruns2_4 _ ?_
    show Steps p.tables e below (Tkruns2_4.setTop (mkF m 24 #[.val (.int (2 : Int32)), .val (.int pruns2_1), .val (.int (own_vruns2_0 pruns2_1)), .val (.int (own_vruns2_1 pruns2_1)), .val (.int (own_vruns2_2 pruns2_1)), .unset, .unset, .unset] [(.int (own_r2_1 pruns2_1 (3 : Int32)))])) _
    refine XS.istore Xkruns2_4.here hx rfl (hb hby own_d1_24) rfl (l' := #[.val (.int (2 : Int32)), .val (.int pruns2_1), .val (.int (own_vruns2_0 pruns2_1)), .val (.int (own_vruns2_1 pruns2_1)), .val (.int (own_vruns2_2 pruns2_1)), .val (.int (own_vruns2_3 pruns2_1)), .unset, .unset]) rfl ?_
    refine XS.iloadN Xkruns2_4.here hx rfl (hb hby own_d1_26) rfl ?_
    refine XS.iconst Xkruns2_4.here hx rfl (hb hby own_d1_27) ?_
    refine stkruns2_5 _ ?_
    show Steps p.tables e below (Tkruns2_5.setTop (mkF m 31 #[.val (.int (2 : Int32)), .val (.int pruns2_1), .val (.int (own_vruns2_0 pruns2_1)), .val (.int (own_vruns2_1 pruns2_1)), .val (.int (own_vruns2_2 pruns2_1)), .val (.int (own_vruns2_3 pruns2_1)), .unset, .unset] [(.int (own_r2_1 pruns2_1 (4 : Int32)))])) _
    refine XS.istore Xkruns2_5.here hx rfl (hb hby own_d1_31) rfl (l' := #[.val (.int (2 : Int32)), .val (.int pruns2_1), .val (.int (own_vruns2_0 pruns2_1)), .val (.int (own_vruns2_1 pruns2_1)), .val (.int (own_vruns2_2 pruns2_1)), .val (.int (own_vruns2_3 pruns2_1)), .val (.int (own_vruns2_4 pruns2_1)), .unset]) rfl ?_
    refine XS.iloadN Xkruns2_5.here hx rfl (hb hby own_d1_33) rfl ?_
    refine XS.iconst Xkruns2_5.here hx rfl (hb hby own_d1_34) ?_
    refine stkruns2_6 _ ?_
    show Steps p.tables e below (Tkruns2_6.setTop (mkF m 38 #[.val (.int (2 : Int32)), .val (.int pruns2_1), .val (.int (own_vruns2_0 pruns2_1)), .val (.int (own_vruns2_1 pruns2_1)), .val (.int (own_vruns2_2 pruns2_1)), .val (.int (own_vruns2_3 pruns2_1)), .val (.int (own_vruns2_4 pruns2_1)), .unset] [(.int (own_r2_1 pruns2_1 (5 : Int32)))])) _
    refine XS.istore Xkruns2_6.here hx rfl (hb hby own_d1_38) rfl (l' := #[.val (.int (2 : Int32)), .val (.int pruns2_1), .val (.int (own_vruns2_0 pruns2_1)), .val (.int (own_vruns2_1 pruns2_1)), .val (.int (own_vruns2_2 pruns2_1)), .val (.int (own_vruns2_3 pruns2_1)), .val (.int (own_vruns2_4 pruns2_1)), .val (.int (own_vruns2_5 pruns2_1))]) rfl ?_
    refine XS.iloadN Xkruns2_6.here hx rfl (hb hby own_d1_40) rfl ?_
    refine XS.ifYes Xkruns2_6.here hx rfl (pc0 := 41) (pc' := 48) rfl (hb hby own_d1_41) rfl (XT.i0_ne_t (by decide : ¬ ((2 : Int32) = (0 : Int32)))) (by decide) (by decide) ?_
    refine XS.iloadN Xkruns2_6.here hx rfl (hb hby own_d1_48) rfl ?_
    refine XS.iconst Xkruns2_6.here hx rfl (hb hby own_d1_49) ?_
    refine XS.icmpYes Xkruns2_6.here hx rfl (pc0 := 50) (pc' := 61) rfl (hb hby own_d1_50) rfl (XT.ii_ne_t (by decide : ¬ ((2 : Int32) = (1 : Int32)))) (by decide) (by decide) ?_
    refine XS.iloadN Xkruns2_6.here hx rfl (hb hby own_d1_61) rfl ?_
    refine XS.iconst Xkruns2_6.here hx rfl (hb hby own_d1_62) ?_
    refine XS.icmpNo Xkruns2_6.here hx rfl (hb hby own_d1_63) rfl (XT.ii_ne_f (by decide : (2 : Int32) = (2 : Int32))) ?_
    refine XS.iconst Xkruns2_6.here hx rfl (hb hby own_d1_66) ?_
    refine stnruns2_7 _ ?_
    show Steps p.tables e below (Tnruns2_7.setTop (mkF m 69 #[.val (.int (2 : Int32)), .val (.int pruns2_1), .val (.int (own_vruns2_0 pruns2_1)), .val (.int (own_vruns2_1 pruns2_1)), .val (.int (own_vruns2_2 pruns2_1)), .val (.int (own_vruns2_3 pruns2_1)), .val (.int (own_vruns2_4 pruns2_1)), .val (.int (own_vruns2_5 pruns2_1))] [(.ref bnruns2_7)])) _
    refine XS.dup Xnruns2_7.here hx rfl (hb hby own_d1_69) rfl rfl ?_
    refine XS.iconst Xnruns2_7.here hx rfl (hb hby own_d1_70) ?_
    refine XS.iloadN Xnruns2_7.here hx rfl (hb hby own_d1_71) rfl ?_
    refine storuns2_9 _ ?_
    show Steps p.tables e below (Toruns2_9.setTop (mkF m 73 #[.val (.int (2 : Int32)), .val (.int pruns2_1), .val (.int (own_vruns2_0 pruns2_1)), .val (.int (own_vruns2_1 pruns2_1)), .val (.int (own_vruns2_2 pruns2_1)), .val (.int (own_vruns2_3 pruns2_1)), .val (.int (own_vruns2_4 pruns2_1)), .val (.int (own_vruns2_5 pruns2_1))] [(.ref bnruns2_7)])) _
    refine XS.dup Xoruns2_9.here hx rfl (hb hby own_d1_73) rfl rfl ?_
    refine XS.iconst Xoruns2_9.here hx rfl (hb hby own_d1_74) ?_
    refine XS.iloadN Xoruns2_9.here hx rfl (hb hby own_d1_75) rfl ?_
    refine storuns2_11 _ ?_
    show Steps p.tables e below (Toruns2_11.setTop (mkF m 77 #[.val (.int (2 : Int32)), .val (.int pruns2_1), .val (.int (own_vruns2_0 pruns2_1)), .val (.int (own_vruns2_1 pruns2_1)), .val (.int (own_vruns2_2 pruns2_1)), .val (.int (own_vruns2_3 pruns2_1)), .val (.int (own_vruns2_4 pruns2_1)), .val (.int (own_vruns2_5 pruns2_1))] [(.ref bnruns2_7)])) _
    jvm_step Xoruns2_11.here [Xoruns2_11.here.top, hx, (hb hby own_d1_77), Xoruns2_11.method', Bd.returns, Value.isRef, FieldType.isReference]
    first | (intro acts; rw [hr _ acts rfl rfl rfl]) | rw [hr _ _ rfl rfl rfl]
    exact Steps.refl _
  · show own_Qruns2 Z pruns2_1 h0 n0 _ Toruns2_11.heap _
    rw [eoruns2_11]
    exact ⟨bnruns2_7, knruns2_7, rfl, Nforuns2_11, ((((Keep.refl h0 []).ext Enruns2_7).wr Woruns2_9 (Or.inr sz_bnruns2_7)).wr Woruns2_11 (Or.inr sz_bnruns2_7)), sz_bnruns2_7, Vworuns2_11⟩
theorem own_d1_78 : decode method_3_code 78 = .ok (.iload_n 0, 1) := by decide +kernel
theorem own_d1_79 : decode method_3_code 79 = .ok (.iconst 3, 1) := by decide +kernel
theorem own_d1_80 : decode method_3_code 80 = .ok (.if_icmp .ne 20, 3) := by decide +kernel
theorem own_d1_83 : decode method_3_code 83 = .ok (.iconst 3, 1) := by decide +kernel
theorem own_d1_84 : decode method_3_code 84 = .ok (.newarray .boolean, 2) := by decide +kernel
theorem own_d1_86 : decode method_3_code 86 = .ok (.dup, 1) := by decide +kernel
theorem own_d1_87 : decode method_3_code 87 = .ok (.iconst 0, 1) := by decide +kernel
theorem own_d1_88 : decode method_3_code 88 = .ok (.iload_n 2, 1) := by decide +kernel
theorem own_d1_89 : decode method_3_code 89 = .ok (.bastore, 1) := by decide +kernel
theorem own_d1_90 : decode method_3_code 90 = .ok (.dup, 1) := by decide +kernel
theorem own_d1_91 : decode method_3_code 91 = .ok (.iconst 1, 1) := by decide +kernel
theorem own_d1_92 : decode method_3_code 92 = .ok (.iload_n 3, 1) := by decide +kernel
theorem own_d1_93 : decode method_3_code 93 = .ok (.bastore, 1) := by decide +kernel
theorem own_d1_94 : decode method_3_code 94 = .ok (.dup, 1) := by decide +kernel
theorem own_d1_95 : decode method_3_code 95 = .ok (.iconst 2, 1) := by decide +kernel
theorem own_d1_96 : decode method_3_code 96 = .ok (.iload 4, 2) := by decide +kernel
theorem own_d1_98 : decode method_3_code 98 = .ok (.bastore, 1) := by decide +kernel
theorem own_d1_99 : decode method_3_code 99 = .ok (.areturn, 1) := by decide +kernel
def own_vruns3_0 (pruns3_1 : Int32) : Int32 := (own_r2_1 pruns3_1 (0 : Int32))
def own_vruns3_1 (pruns3_1 : Int32) : Int32 := (own_r2_1 pruns3_1 (1 : Int32))
def own_vruns3_2 (pruns3_1 : Int32) : Int32 := (own_r2_1 pruns3_1 (2 : Int32))
def own_vruns3_3 (pruns3_1 : Int32) : Int32 := (own_r2_1 pruns3_1 (3 : Int32))
def own_vruns3_4 (pruns3_1 : Int32) : Int32 := (own_r2_1 pruns3_1 (4 : Int32))
def own_vruns3_5 (pruns3_1 : Int32) : Int32 := (own_r2_1 pruns3_1 (5 : Int32))
theorem own_efruns3 (m : MethodId) (pruns3_1 : Int32) : entryFrame m #[(.int (3 : Int32)), (.int pruns3_1)] 8 = mkF m 0 #[.val (.int (3 : Int32)), .val (.int pruns3_1), .unset, .unset, .unset, .unset, .unset, .unset] [] := by first | (simp [entryFrame, mkF, argsToLocals, Value.category]; done) | rfl
def own_Qruns3 (Z : State) (pruns3_1 : Int32) (h0 : Heap) (n0 : Nat) (v : Option Value) (h : Heap) (L : List Loc) : Prop := ∃ (bnruns3_7 : Addr) (knruns3_7 : ClassId), v = some (.ref bnruns3_7) ∧ Fr n0 L ∧ Keep h0 h [] ∧ h0.size ≤ bnruns3_7 ∧ Arv Z h bnruns3_7 knruns3_7 .boolean (3 : Int32) [(.int (nar .boolean (own_vruns3_0 pruns3_1))), (.int (nar .boolean (own_vruns3_1 pruns3_1))), (.int (nar .boolean (own_vruns3_2 pruns3_1)))] (.int (0 : Int32))
set_option maxRecDepth 65536 in
set_option maxHeartbeats 40000000 in
theorem own_rmruns3 (l : Launch) (Z : State) (a0 : Array Value) (hw : ∀ d ∈ tables_1, d.before a0 Z = true) (ws : List Jvm.Cond) (pruns3_1 : Int32) (h0 : Heap) (n0 : Nat) (Z0 : n0 ≤ h0.size) :
    MetFree l (⟨"com/example/arborway/arborway/sim/WalkRunningCountPinLaw", "runs", "(II)[Z"⟩ : MethodName) (head1 (Jvm.Cond.code (⟨"com/example/arborway/arborway/sim/WalkRunningCountPinLaw", "runs", "(II)[Z"⟩ : MethodName) method_3_code 8 (some (.array .boolean)) :: ws) ({ frames := 1, cells := 1, slots := 3, locals := 13 } : Room)) (fun a U => a = #[(.int (3 : Int32)), (.int pruns3_1)] ∧ Z.Warmed39 U.vm ∧ U.heap = h0) (fun _ _ _ _ _ => True) (fun _ U o U' => ∃ v L, o = .returned v ∧ own_Qruns3 Z pruns3_1 h0 n0 v U'.heap L ∧ FrameEnd U o U' L ({ frames := 1, cells := 1, slots := 3, locals := 13 } : Room).cells ({ frames := 1, cells := 1, slots := 3, locals := 13 } : Room).slots) := by
  refine MetFree.of_bodySF (plainFor_of_name own_pn0) hisR ?_
  intro p e s m args below meth c s₁ Bd hml0 hP hK
  obtain ⟨rfl, hZ, hh⟩ := hP
  have hx := Bd.exec
  have hby := Bd.bytes
  have hml : c.maxLocals = 8 := hml0
  have hown : s.vm.findClass "com/example/arborway/arborway/sim/WalkRunningCountPinLaw" = some m.cls := findClass_of_methodNamed Bd.named
  have hnm := (name_of_methodNamed Bd.named Bd.method).1
  have X0 : Stand p l e ({ frames := 1, cells := 1, slots := 3, locals := 13 } : Room) s m #[(.int (3 : Int32)), (.int pruns3_1)] below meth c s₁ [] 0 0 := Stand.of_body Bd
  have e0 : s₁.heap = h0 := by rw [← hh, Bd.state]; rfl
  have N0 := Fr.nil n0
  have Zr : h0.size ≤ h0.size := Nat.le_refl _
  have pre0 : ∀ t, Steps p.tables e below (s₁.setTop (mkF m 0 #[.val (.int (3 : Int32)), .val (.int pruns3_1), .unset, .unset, .unset, .unset, .unset, .unset] [])) t → Steps p.tables e below (s₁.setTop (entryFrame m #[(.int (3 : Int32)), (.int pruns3_1)] 8)) t := fun t k => castTop (own_efruns3 m pruns3_1) k
  obtain ⟨_, _, ⟨Tkruns3_1, Lkruns3_1, kkruns3_1, nkruns3_1⟩, -, Xkruns3_1, ⟨Lckruns3_1, hQkruns3_1, lkruns3_1, ykruns3_1, zkruns3_1⟩, stkruns3_1⟩ := Jvm.LawKit.callS X0 hx (y := (⟨"com/example/arborway/arborway/sim/WalkRunningCountPinLaw", "bit", "(II)Z"⟩ : MethodName)) hown (mvT hZ (own_W hw 5 rfl)) (mvT hZ (own_W hw 6 rfl)) (mvT hZ (own_W hw 3 rfl)) (mvT hZ (own_W hw 7 rfl)) (by decide) (backOf (W := 0) (own_rm2 l Z a0 hw [] pruns3_1 (0 : Int32) h0 n0 Z0) hZ (own_W hw 7 rfl) (own_W hw 3 rfl) (by decide) (by decide)) (g := (mkF m 2 #[.val (.int (3 : Int32)), .val (.int pruns3_1), .unset, .unset, .unset, .unset, .unset, .unset] [(.int (0 : Int32)), (.int pruns3_1)])) rfl (by rw [hml]; rfl) (argsL := [(.int pruns3_1), (.int (0 : Int32))]) (rest := []) (lenOf own_pd0 rfl) rfl (by show 2 * 0 + _ ≤ _; exact Nat.le_of_eq rfl) (hb hby own_d1_2) (fun _ _ => ⟨rfl, e0, (by decide : 0 + 0 ≤ _), (by decide : 0 + 0 ≤ _)⟩)
  dsimp only [Pt.U, Pt.locs, Pt.cells, Pt.slots] at Xkruns3_1 lkruns3_1 ykruns3_1 zkruns3_1 stkruns3_1 hQkruns3_1
  replace lkruns3_1 := lkruns3_1.symm; replace ykruns3_1 := ykruns3_1.symm; replace zkruns3_1 := zkruns3_1.symm; subst lkruns3_1 ykruns3_1 zkruns3_1
  obtain ⟨rfl, Nkruns3_1q, ekruns3_1⟩ := hQkruns3_1
  have Nkruns3_1 := Fr.app N0 Nkruns3_1q
  obtain ⟨_, _, ⟨Tkruns3_2, Lkruns3_2, kkruns3_2, nkruns3_2⟩, -, Xkruns3_2, ⟨Lckruns3_2, hQkruns3_2, lkruns3_2, ykruns3_2, zkruns3_2⟩, stkruns3_2⟩ := Jvm.LawKit.callS Xkruns3_1 hx (y := (⟨"com/example/arborway/arborway/sim/WalkRunningCountPinLaw", "bit", "(II)Z"⟩ : MethodName)) hown (mvT hZ (own_W hw 5 rfl)) (mvT hZ (own_W hw 6 rfl)) (mvT hZ (own_W hw 3 rfl)) (mvT hZ (own_W hw 7 rfl)) (by decide) (backOf (W := 0) (own_rm2 l Z a0 hw [] pruns3_1 (1 : Int32) h0 n0 Z0) hZ (own_W hw 7 rfl) (own_W hw 3 rfl) (by decide) (by decide)) (g := (mkF m 8 #[.val (.int (3 : Int32)), .val (.int pruns3_1), .val (.int (own_vruns3_0 pruns3_1)), .unset, .unset, .unset, .unset, .unset] [(.int (1 : Int32)), (.int pruns3_1)])) rfl (by rw [hml]; rfl) (argsL := [(.int pruns3_1), (.int (1 : Int32))]) (rest := []) (lenOf own_pd0 rfl) rfl (by show 2 * 0 + _ ≤ _; exact Nat.le_of_eq rfl) (hb hby own_d1_8) (fun _ _ => ⟨rfl, ekruns3_1, (by decide : 0 + 0 ≤ _), (by decide : 0 + 0 ≤ _)⟩)
  dsimp only [Pt.U, Pt.locs, Pt.cells, Pt.slots] at Xkruns3_2 lkruns3_2 ykruns3_2 zkruns3_2 stkruns3_2 hQkruns3_2
  replace lkruns3_2 := lkruns3_2.symm; replace ykruns3_2 := ykruns3_2.symm; replace zkruns3_2 := zkruns3_2.symm; subst lkruns3_2 ykruns3_2 zkruns3_2
  obtain ⟨rfl, Nkruns3_2q, ekruns3_2⟩ := hQkruns3_2
  have Nkruns3_2 := Fr.app Nkruns3_1 Nkruns3_2q
  obtain ⟨_, _, ⟨Tkruns3_3, Lkruns3_3, kkruns3_3, nkruns3_3⟩, -, Xkruns3_3, ⟨Lckruns3_3, hQkruns3_3, lkruns3_3, ykruns3_3, zkruns3_3⟩, stkruns3_3⟩ := Jvm.LawKit.callS Xkruns3_2 hx (y := (⟨"com/example/arborway/arborway/sim/WalkRunningCountPinLaw", "bit", "(II)Z"⟩ : MethodName)) hown (mvT hZ (own_W hw 5 rfl)) (mvT hZ (own_W hw 6 rfl)) (mvT hZ (own_W hw 3 rfl)) (mvT hZ (own_W hw 7 rfl)) (by decide) (backOf (W := 0) (own_rm2 l Z a0 hw [] pruns3_1 (2 : Int32) h0 n0 Z0) hZ (own_W hw 7 rfl) (own_W hw 3 rfl) (by decide) (by decide)) (g := (mkF m 14 #[.val (.int (3 : Int32)), .val (.int pruns3_1), .val (.int (own_vruns3_0 pruns3_1)), .val (.int (own_vruns3_1 pruns3_1)), .unset, .unset, .unset, .unset] [(.int (2 : Int32)), (.int pruns3_1)])) rfl (by rw [hml]; rfl) (argsL := [(.int pruns3_1), (.int (2 : Int32))]) (rest := []) (lenOf own_pd0 rfl) rfl (by show 2 * 0 + _ ≤ _; exact Nat.le_of_eq rfl) (hb hby own_d1_14) (fun _ _ => ⟨rfl, ekruns3_2, (by decide : 0 + 0 ≤ _), (by decide : 0 + 0 ≤ _)⟩)
  dsimp only [Pt.U, Pt.locs, Pt.cells, Pt.slots] at Xkruns3_3 lkruns3_3 ykruns3_3 zkruns3_3 stkruns3_3 hQkruns3_3
  replace lkruns3_3 := lkruns3_3.symm; replace ykruns3_3 := ykruns3_3.symm; replace zkruns3_3 := zkruns3_3.symm; subst lkruns3_3 ykruns3_3 zkruns3_3
  obtain ⟨rfl, Nkruns3_3q, ekruns3_3⟩ := hQkruns3_3
  have Nkruns3_3 := Fr.app Nkruns3_2 Nkruns3_3q
  obtain ⟨_, _, ⟨Tkruns3_4, Lkruns3_4, kkruns3_4, nkruns3_4⟩, -, Xkruns3_4, ⟨Lckruns3_4, hQkruns3_4, lkruns3_4, ykruns3_4, zkruns3_4⟩, stkruns3_4⟩ := Jvm.LawKit.callS Xkruns3_3 hx (y := (⟨"com/example/arborway/arborway/sim/WalkRunningCountPinLaw", "bit", "(II)Z"⟩ : MethodName)) hown (mvT hZ (own_W hw 5 rfl)) (mvT hZ (own_W hw 6 rfl)) (mvT hZ (own_W hw 3 rfl)) (mvT hZ (own_W hw 7 rfl)) (by decide) (backOf (W := 0) (own_rm2 l Z a0 hw [] pruns3_1 (3 : Int32) h0 n0 Z0) hZ (own_W hw 7 rfl) (own_W hw 3 rfl) (by decide) (by decide)) (g := (mkF m 21 #[.val (.int (3 : Int32)), .val (.int pruns3_1), .val (.int (own_vruns3_0 pruns3_1)), .val (.int (own_vruns3_1 pruns3_1)), .val (.int (own_vruns3_2 pruns3_1)), .unset, .unset, .unset] [(.int (3 : Int32)), (.int pruns3_1)])) rfl (by rw [hml]; rfl) (argsL := [(.int pruns3_1), (.int (3 : Int32))]) (rest := []) (lenOf own_pd0 rfl) rfl (by show 2 * 0 + _ ≤ _; exact Nat.le_of_eq rfl) (hb hby own_d1_21) (fun _ _ => ⟨rfl, ekruns3_3, (by decide : 0 + 0 ≤ _), (by decide : 0 + 0 ≤ _)⟩)
  dsimp only [Pt.U, Pt.locs, Pt.cells, Pt.slots] at Xkruns3_4 lkruns3_4 ykruns3_4 zkruns3_4 stkruns3_4 hQkruns3_4
  replace lkruns3_4 := lkruns3_4.symm; replace ykruns3_4 := ykruns3_4.symm; replace zkruns3_4 := zkruns3_4.symm; subst lkruns3_4 ykruns3_4 zkruns3_4
  obtain ⟨rfl, Nkruns3_4q, ekruns3_4⟩ := hQkruns3_4
  have Nkruns3_4 := Fr.app Nkruns3_3 Nkruns3_4q
  obtain ⟨_, _, ⟨Tkruns3_5, Lkruns3_5, kkruns3_5, nkruns3_5⟩, -, Xkruns3_5, ⟨Lckruns3_5, hQkruns3_5, lkruns3_5, ykruns3_5, zkruns3_5⟩, stkruns3_5⟩ := Jvm.LawKit.callS Xkruns3_4 hx (y := (⟨"com/example/arborway/arborway/sim/WalkRunningCountPinLaw", "bit", "(II)Z"⟩ : MethodName)) hown (mvT hZ (own_W hw 5 rfl)) (mvT hZ (own_W hw 6 rfl)) (mvT hZ (own_W hw 3 rfl)) (mvT hZ (own_W hw 7 rfl)) (by decide) (backOf (W := 0) (own_rm2 l Z a0 hw [] pruns3_1 (4 : Int32) h0 n0 Z0) hZ (own_W hw 7 rfl) (own_W hw 3 rfl) (by decide) (by decide)) (g := (mkF m 28 #[.val (.int (3 : Int32)), .val (.int pruns3_1), .val (.int (own_vruns3_0 pruns3_1)), .val (.int (own_vruns3_1 pruns3_1)), .val (.int (own_vruns3_2 pruns3_1)), .val (.int (own_vruns3_3 pruns3_1)), .unset, .unset] [(.int (4 : Int32)), (.int pruns3_1)])) rfl (by rw [hml]; rfl) (argsL := [(.int pruns3_1), (.int (4 : Int32))]) (rest := []) (lenOf own_pd0 rfl) rfl (by show 2 * 0 + _ ≤ _; exact Nat.le_of_eq rfl) (hb hby own_d1_28) (fun _ _ => ⟨rfl, ekruns3_4, (by decide : 0 + 0 ≤ _), (by decide : 0 + 0 ≤ _)⟩)
  dsimp only [Pt.U, Pt.locs, Pt.cells, Pt.slots] at Xkruns3_5 lkruns3_5 ykruns3_5 zkruns3_5 stkruns3_5 hQkruns3_5
  replace lkruns3_5 := lkruns3_5.symm; replace ykruns3_5 := ykruns3_5.symm; replace zkruns3_5 := zkruns3_5.symm; subst lkruns3_5 ykruns3_5 zkruns3_5
  obtain ⟨rfl, Nkruns3_5q, ekruns3_5⟩ := hQkruns3_5
  have Nkruns3_5 := Fr.app Nkruns3_4 Nkruns3_5q
  obtain ⟨_, _, ⟨Tkruns3_6, Lkruns3_6, kkruns3_6, nkruns3_6⟩, -, Xkruns3_6, ⟨Lckruns3_6, hQkruns3_6, lkruns3_6, ykruns3_6, zkruns3_6⟩, stkruns3_6⟩ := Jvm.LawKit.callS Xkruns3_5 hx (y := (⟨"com/example/arborway/arborway/sim/WalkRunningCountPinLaw", "bit", "(II)Z"⟩ : MethodName)) hown (mvT hZ (own_W hw 5 rfl)) (mvT hZ (own_W hw 6 rfl)) (mvT hZ (own_W hw 3 rfl)) (mvT hZ (own_W hw 7 rfl)) (by decide) (backOf (W := 0) (own_rm2 l Z a0 hw [] pruns3_1 (5 : Int32) h0 n0 Z0) hZ (own_W hw 7 rfl) (own_W hw 3 rfl) (by decide) (by decide)) (g := (mkF m 35 #[.val (.int (3 : Int32)), .val (.int pruns3_1), .val (.int (own_vruns3_0 pruns3_1)), .val (.int (own_vruns3_1 pruns3_1)), .val (.int (own_vruns3_2 pruns3_1)), .val (.int (own_vruns3_3 pruns3_1)), .val (.int (own_vruns3_4 pruns3_1)), .unset] [(.int (5 : Int32)), (.int pruns3_1)])) rfl (by rw [hml]; rfl) (argsL := [(.int pruns3_1), (.int (5 : Int32))]) (rest := []) (lenOf own_pd0 rfl) rfl (by show 2 * 0 + _ ≤ _; exact Nat.le_of_eq rfl) (hb hby own_d1_35) (fun _ _ => ⟨rfl, ekruns3_5, (by decide : 0 + 0 ≤ _), (by decide : 0 + 0 ≤ _)⟩)
  dsimp only [Pt.U, Pt.locs, Pt.cells, Pt.slots] at Xkruns3_6 lkruns3_6 ykruns3_6 zkruns3_6 stkruns3_6 hQkruns3_6
  replace lkruns3_6 := lkruns3_6.symm; replace ykruns3_6 := ykruns3_6.symm; replace zkruns3_6 := zkruns3_6.symm; subst lkruns3_6 ykruns3_6 zkruns3_6
  obtain ⟨rfl, Nkruns3_6q, ekruns3_6⟩ := hQkruns3_6
  have Nkruns3_6 := Fr.app Nkruns3_5 Nkruns3_6q
  obtain ⟨Tnruns3_7, hnruns3_7, knruns3_7, Xnruns3_7, enruns3_7, Enruns3_7, Anruns3_7, stnruns3_7⟩ := newP Xkruns3_6 hx hZ (own_W hw 8 rfl) ekruns3_6 (g := (mkF m 84 #[.val (.int (3 : Int32)), .val (.int pruns3_1), .val (.int (own_vruns3_0 pruns3_1)), .val (.int (own_vruns3_1 pruns3_1)), .val (.int (own_vruns3_2 pruns3_1)), .val (.int (own_vruns3_3 pruns3_1)), .val (.int (own_vruns3_4 pruns3_1)), .val (.int (own_vruns3_5 pruns3_1))] [(.int (3 : Int32))])) rfl (hb hby own_d1_84) rfl (by decide) (cap := 3) (by decide) (by decide) (by decide) (by decide)
  obtain ⟨bnruns3_7, gnruns3_7⟩ : ∃ z, z = h0.size := ⟨_, rfl⟩
  rw [← gnruns3_7] at Anruns3_7 stnruns3_7
  have g_bnruns3_7 : n0 ≤ bnruns3_7 := Nat.le_trans Z0 (Nat.le_of_eq gnruns3_7.symm)
  have sz_bnruns3_7 : h0.size ≤ bnruns3_7 := Nat.le_trans Zr (Nat.le_of_eq gnruns3_7.symm)
  have szruns3_8 : h0.size ≤ hnruns3_7.size := Nat.le_trans Zr Enruns3_7.1
  have V_bnruns3_7 : Arv Z hnruns3_7 bnruns3_7 knruns3_7 .boolean (3 : Int32) [(.int (0 : Int32)), (.int (0 : Int32)), (.int (0 : Int32))] (.int (0 : Int32)) := (Arv.new Anruns3_7 (by decide)).pad (pad_rep [] (.int (0 : Int32)) 3)
  have Ooruns3_9 := V_bnruns3_7
  obtain ⟨cloruns3_9, Aroruns3_9, qoruns3_9, Soruns3_9, Noruns3_9, Horuns3_9, Goruns3_9⟩ := Ooruns3_9
  have hinoruns3_9 : ¬ ((0 : Int32) < 0 ∨ cloruns3_9.slots.size ≤ ((0 : Int32)).toNatClampNeg) := inb_of Soruns3_9 ⟨by decide, by decide⟩
  obtain ⟨Toruns3_9, horuns3_9, Xoruns3_9, eoruns3_9, Woruns3_9, storuns3_9⟩ := stZ Xnruns3_7 hx hZ enruns3_7 Aroruns3_9 (j := (0 : Int32)) hinoruns3_9 (g := (mkF m 89 #[.val (.int (3 : Int32)), .val (.int pruns3_1), .val (.int (own_vruns3_0 pruns3_1)), .val (.int (own_vruns3_1 pruns3_1)), .val (.int (own_vruns3_2 pruns3_1)), .val (.int (own_vruns3_3 pruns3_1)), .val (.int (own_vruns3_4 pruns3_1)), .val (.int (own_vruns3_5 pruns3_1))] [(.int (own_vruns3_0 pruns3_1)), (.int (0 : Int32)), (.ref bnruns3_7), (.ref bnruns3_7)])) rfl rfl (hb hby own_d1_89)
  have Vworuns3_9 : Arv Z horuns3_9 bnruns3_7 knruns3_7 .boolean (3 : Int32) [(.int (nar .boolean (own_vruns3_0 pruns3_1))), (.int (0 : Int32)), (.int (0 : Int32))] (.int (0 : Int32)) := Arv.set Aroruns3_9 qoruns3_9 Soruns3_9 Noruns3_9 Horuns3_9 Goruns3_9 (fits_nar_bool _) Woruns3_9 0 rfl (Nat.le_of_ble_eq_true rfl)
  have szruns3_10 : h0.size ≤ horuns3_9.size := Nat.le_trans szruns3_8 (Nat.le_of_eq Woruns3_9.size.symm)
  have Nforuns3_9 := Fr.snoc Xoruns3_9 Nkruns3_6 g_bnruns3_7
  have Ooruns3_11 := Vworuns3_9
  obtain ⟨cloruns3_11, Aroruns3_11, qoruns3_11, Soruns3_11, Noruns3_11, Horuns3_11, Goruns3_11⟩ := Ooruns3_11
  have hinoruns3_11 : ¬ ((1 : Int32) < 0 ∨ cloruns3_11.slots.size ≤ ((1 : Int32)).toNatClampNeg) := inb_of Soruns3_11 ⟨by decide, by decide⟩
  obtain ⟨Toruns3_11, horuns3_11, Xoruns3_11, eoruns3_11, Woruns3_11, storuns3_11⟩ := stZ Xoruns3_9 hx hZ eoruns3_9 Aroruns3_11 (j := (1 : Int32)) hinoruns3_11 (g := (mkF m 93 #[.val (.int (3 : Int32)), .val (.int pruns3_1), .val (.int (own_vruns3_0 pruns3_1)), .val (.int (own_vruns3_1 pruns3_1)), .val (.int (own_vruns3_2 pruns3_1)), .val (.int (own_vruns3_3 pruns3_1)), .val (.int (own_vruns3_4 pruns3_1)), .val (.int (own_vruns3_5 pruns3_1))] [(.int (own_vruns3_1 pruns3_1)), (.int (1 : Int32)), (.ref bnruns3_7), (.ref bnruns3_7)])) rfl rfl (hb hby own_d1_93)
  have Vworuns3_11 : Arv Z horuns3_11 bnruns3_7 knruns3_7 .boolean (3 : Int32) [(.int (nar .boolean (own_vruns3_0 pruns3_1))), (.int (nar .boolean (own_vruns3_1 pruns3_1))), (.int (0 : Int32))] (.int (0 : Int32)) := Arv.set Aroruns3_11 qoruns3_11 Soruns3_11 Noruns3_11 Horuns3_11 Goruns3_11 (fits_nar_bool _) Woruns3_11 1 rfl (Nat.le_of_ble_eq_true rfl)
  have szruns3_12 : h0.size ≤ horuns3_11.size := Nat.le_trans szruns3_10 (Nat.le_of_eq Woruns3_11.size.symm)
  have Nforuns3_11 := Fr.snoc Xoruns3_11 Nforuns3_9 g_bnruns3_7
  have Ooruns3_13 := Vworuns3_11
  obtain ⟨cloruns3_13, Aroruns3_13, qoruns3_13, Soruns3_13, Noruns3_13, Horuns3_13, Goruns3_13⟩ := Ooruns3_13
  have hinoruns3_13 : ¬ ((2 : Int32) < 0 ∨ cloruns3_13.slots.size ≤ ((2 : Int32)).toNatClampNeg) := inb_of Soruns3_13 ⟨by decide, by decide⟩
  obtain ⟨Toruns3_13, horuns3_13, Xoruns3_13, eoruns3_13, Woruns3_13, storuns3_13⟩ := stZ Xoruns3_11 hx hZ eoruns3_11 Aroruns3_13 (j := (2 : Int32)) hinoruns3_13 (g := (mkF m 98 #[.val (.int (3 : Int32)), .val (.int pruns3_1), .val (.int (own_vruns3_0 pruns3_1)), .val (.int (own_vruns3_1 pruns3_1)), .val (.int (own_vruns3_2 pruns3_1)), .val (.int (own_vruns3_3 pruns3_1)), .val (.int (own_vruns3_4 pruns3_1)), .val (.int (own_vruns3_5 pruns3_1))] [(.int (own_vruns3_2 pruns3_1)), (.int (2 : Int32)), (.ref bnruns3_7), (.ref bnruns3_7)])) rfl rfl (hb hby own_d1_98)
  have Vworuns3_13 : Arv Z horuns3_13 bnruns3_7 knruns3_7 .boolean (3 : Int32) [(.int (nar .boolean (own_vruns3_0 pruns3_1))), (.int (nar .boolean (own_vruns3_1 pruns3_1))), (.int (nar .boolean (own_vruns3_2 pruns3_1)))] (.int (0 : Int32)) := Arv.set Aroruns3_13 qoruns3_13 Soruns3_13 Noruns3_13 Horuns3_13 Goruns3_13 (fits_nar_bool _) Woruns3_13 2 rfl (Nat.le_of_ble_eq_true rfl)
  have szruns3_14 : h0.size ≤ horuns3_13.size := Nat.le_trans szruns3_12 (Nat.le_of_eq Woruns3_13.size.symm)
  have Nforuns3_13 := Fr.snoc Xoruns3_13 Nforuns3_11 g_bnruns3_7
  obtain ⟨fs, hr, hrun, hended, hW, hsame⟩ := Xoruns3_13.leave (v := some (.ref bnruns3_7)) (fun h => by rw [Bd.returns] at h; cases h)
  refine ⟨_, _, pre0 _ (?_), hrun, hended, _, _, rfl, ?_, ⟨_, rfl⟩, hW, hsame.mono (by decide) (by decide)⟩
  · show Steps p.tables e below (s₁.setTop (mkF m 0 #[.val (.int (3 : Int32)), .val (.int pruns3_1), .unset, .unset, .unset, .unset, .unset, .unset] [])) _
    refine XS.iloadN X0.here hx rfl (hb hby own_d1_0) rfl ?_
    refine XS.iconst X0.here hx rfl (hb hby own_d1_1) ?_
    refine stkruns3_1 _ ?_
    show Steps p.tables e below (Tkruns3_1.setTop (mkF m 5 #[.val (.int (3 : Int32)), .val (.int pruns3_1), .unset, .unset, .unset, .unset, .unset, .unset] [(.int (own_r2_1 pruns3_1 (0 : Int32)))])) _
    refine XS.istoreN Xkruns3_1.here hx rfl (hb hby own_d1_5) rfl (l' := #[.val (.int (3 : Int32)), .val (.int pruns3_1), .val (.int (own_vruns3_0 pruns3_1)), .unset, .unset, .unset, .unset, .unset]) rfl ?_
    refine XS.iloadN Xkruns3_1.here hx rfl (hb hby own_d1_6) rfl ?_
    refine XS.iconst Xkruns3_1.here hx rfl (hb hby own_d1_7) ?_
    refine stkruns3_2 _ ?_
    show Steps p.tables e below (Tkruns3_2.setTop (mkF m 11 #[.val (.int (3 : Int32)), .val (.int pruns3_1), .val (.int (own_vruns3_0 pruns3_1)), .unset, .unset, .unset, .unset, .unset] [(.int (own_r2_1 pruns3_1 (1 : Int32)))])) _
    refine XS.istoreN Xkruns3_2.here hx rfl (hb hby own_d1_11) rfl (l' := #[.val (.int (3 : Int32)), .val (.int pruns3_1), .val (.int (own_vruns3_0 pruns3_1)), .val (.int (own_vruns3_1 pruns3_1)), .unset, .unset, .unset, .unset]) rfl ?_
    refine XS.iloadN Xkruns3_2.here hx rfl (hb hby own_d1_12) rfl ?_
    refine XS.iconst Xkruns3_2.here hx rfl (hb hby own_d1_13) ?_
    refine stkruns3_3 _ ?_
    show Steps p.tables e below (Tkruns3_3.setTop (mkF m 17 #[.val (.int (3 : Int32)), .val (.int pruns3_1), .val (.int (own_vruns3_0 pruns3_1)), .val (.int (own_vruns3_1 pruns3_1)), .unset, .unset, .unset, .unset] [(.int (own_r2_1 pruns3_1 (2 : Int32)))])) _
    refine XS.istore Xkruns3_3.here hx rfl (hb hby own_d1_17) rfl (l' := #[.val (.int (3 : Int32)), .val (.int pruns3_1), .val (.int (own_vruns3_0 pruns3_1)), .val (.int (own_vruns3_1 pruns3_1)), .val (.int (own_vruns3_2 pruns3_1)), .unset, .unset, .unset]) rfl ?_
    refine XS.iloadN Xkruns3_3.here hx rfl (hb hby own_d1_19) rfl ?_
    refine XS.iconst Xkruns3_3.here hx rfl (hb hby own_d1_20) ?_
    refine stkruns3_4 _ ?_
    show Steps p.tables e below (Tkruns3_4.setTop (mkF m 24 #[.val (.int (3 : Int32)), .val (.int pruns3_1), .val (.int (own_vruns3_0 pruns3_1)), .val (.int (own_vruns3_1 pruns3_1)), .val (.int (own_vruns3_2 pruns3_1)), .unset, .unset, .unset] [(.int (own_r2_1 pruns3_1 (3 : Int32)))])) _
    refine XS.istore Xkruns3_4.here hx rfl (hb hby own_d1_24) rfl (l' := #[.val (.int (3 : Int32)), .val (.int pruns3_1), .val (.int (own_vruns3_0 pruns3_1)), .val (.int (own_vruns3_1 pruns3_1)), .val (.int (own_vruns3_2 pruns3_1)), .val (.int (own_vruns3_3 pruns3_1)), .unset, .unset]) rfl ?_
    refine XS.iloadN Xkruns3_4.here hx rfl (hb hby own_d1_26) rfl ?_
    refine XS.iconst Xkruns3_4.here hx rfl (hb hby own_d1_27) ?_
    refine stkruns3_5 _ ?_
    show Steps p.tables e below (Tkruns3_5.setTop (mkF m 31 #[.val (.int (3 : Int32)), .val (.int pruns3_1), .val (.int (own_vruns3_0 pruns3_1)), .val (.int (own_vruns3_1 pruns3_1)), .val (.int (own_vruns3_2 pruns3_1)), .val (.int (own_vruns3_3 pruns3_1)), .unset, .unset] [(.int (own_r2_1 pruns3_1 (4 : Int32)))])) _
    refine XS.istore Xkruns3_5.here hx rfl (hb hby own_d1_31) rfl (l' := #[.val (.int (3 : Int32)), .val (.int pruns3_1), .val (.int (own_vruns3_0 pruns3_1)), .val (.int (own_vruns3_1 pruns3_1)), .val (.int (own_vruns3_2 pruns3_1)), .val (.int (own_vruns3_3 pruns3_1)), .val (.int (own_vruns3_4 pruns3_1)), .unset]) rfl ?_
    refine XS.iloadN Xkruns3_5.here hx rfl (hb hby own_d1_33) rfl ?_
    refine XS.iconst Xkruns3_5.here hx rfl (hb hby own_d1_34) ?_
    refine stkruns3_6 _ ?_
    show Steps p.tables e below (Tkruns3_6.setTop (mkF m 38 #[.val (.int (3 : Int32)), .val (.int pruns3_1), .val (.int (own_vruns3_0 pruns3_1)), .val (.int (own_vruns3_1 pruns3_1)), .val (.int (own_vruns3_2 pruns3_1)), .val (.int (own_vruns3_3 pruns3_1)), .val (.int (own_vruns3_4 pruns3_1)), .unset] [(.int (own_r2_1 pruns3_1 (5 : Int32)))])) _
    refine XS.istore Xkruns3_6.here hx rfl (hb hby own_d1_38) rfl (l' := #[.val (.int (3 : Int32)), .val (.int pruns3_1), .val (.int (own_vruns3_0 pruns3_1)), .val (.int (own_vruns3_1 pruns3_1)), .val (.int (own_vruns3_2 pruns3_1)), .val (.int (own_vruns3_3 pruns3_1)), .val (.int (own_vruns3_4 pruns3_1)), .val (.int (own_vruns3_5 pruns3_1))]) rfl ?_
    refine XS.iloadN Xkruns3_6.here hx rfl (hb hby own_d1_40) rfl ?_
    refine XS.ifYes Xkruns3_6.here hx rfl (pc0 := 41) (pc' := 48) rfl (hb hby own_d1_41) rfl (XT.i0_ne_t (by decide : ¬ ((3 : Int32) = (0 : Int32)))) (by decide) (by decide) ?_
    refine XS.iloadN Xkruns3_6.here hx rfl (hb hby own_d1_48) rfl ?_
    refine XS.iconst Xkruns3_6.here hx rfl (hb hby own_d1_49) ?_
    refine XS.icmpYes Xkruns3_6.here hx rfl (pc0 := 50) (pc' := 61) rfl (hb hby own_d1_50) rfl (XT.ii_ne_t (by decide : ¬ ((3 : Int32) = (1 : Int32)))) (by decide) (by decide) ?_
    refine XS.iloadN Xkruns3_6.here hx rfl (hb hby own_d1_61) rfl ?_
    refine XS.iconst Xkruns3_6.here hx rfl (hb hby own_d1_62) ?_
    refine XS.icmpYes Xkruns3_6.here hx rfl (pc0 := 63) (pc' := 78) rfl (hb hby own_d1_63) rfl (XT.ii_ne_t (by decide : ¬ ((3 : Int32) = (2 : Int32)))) (by decide) (by decide) ?_
    refine XS.iloadN Xkruns3_6.here hx rfl (hb hby own_d1_78) rfl ?_
    refine XS.iconst Xkruns3_6.here hx rfl (hb hby own_d1_79) ?_
    refine XS.icmpNo Xkruns3_6.here hx rfl (hb hby own_d1_80) rfl (XT.ii_ne_f (by decide : (3 : Int32) = (3 : Int32))) ?_
    refine XS.iconst Xkruns3_6.here hx rfl (hb hby own_d1_83) ?_
    refine stnruns3_7 _ ?_
    show Steps p.tables e below (Tnruns3_7.setTop (mkF m 86 #[.val (.int (3 : Int32)), .val (.int pruns3_1), .val (.int (own_vruns3_0 pruns3_1)), .val (.int (own_vruns3_1 pruns3_1)), .val (.int (own_vruns3_2 pruns3_1)), .val (.int (own_vruns3_3 pruns3_1)), .val (.int (own_vruns3_4 pruns3_1)), .val (.int (own_vruns3_5 pruns3_1))] [(.ref bnruns3_7)])) _
    refine XS.dup Xnruns3_7.here hx rfl (hb hby own_d1_86) rfl rfl ?_
    refine XS.iconst Xnruns3_7.here hx rfl (hb hby own_d1_87) ?_
    refine XS.iloadN Xnruns3_7.here hx rfl (hb hby own_d1_88) rfl ?_
    refine storuns3_9 _ ?_
    show Steps p.tables e below (Toruns3_9.setTop (mkF m 90 #[.val (.int (3 : Int32)), .val (.int pruns3_1), .val (.int (own_vruns3_0 pruns3_1)), .val (.int (own_vruns3_1 pruns3_1)), .val (.int (own_vruns3_2 pruns3_1)), .val (.int (own_vruns3_3 pruns3_1)), .val (.int (own_vruns3_4 pruns3_1)), .val (.int (own_vruns3_5 pruns3_1))] [(.ref bnruns3_7)])) _
    refine XS.dup Xoruns3_9.here hx rfl (hb hby own_d1_90) rfl rfl ?_
    refine XS.iconst Xoruns3_9.here hx rfl (hb hby own_d1_91) ?_
    refine XS.iloadN Xoruns3_9.here hx rfl (hb hby own_d1_92) rfl ?_
    refine storuns3_11 _ ?_
    show Steps p.tables e below (Toruns3_11.setTop (mkF m 94 #[.val (.int (3 : Int32)), .val (.int pruns3_1), .val (.int (own_vruns3_0 pruns3_1)), .val (.int (own_vruns3_1 pruns3_1)), .val (.int (own_vruns3_2 pruns3_1)), .val (.int (own_vruns3_3 pruns3_1)), .val (.int (own_vruns3_4 pruns3_1)), .val (.int (own_vruns3_5 pruns3_1))] [(.ref bnruns3_7)])) _
    refine XS.dup Xoruns3_11.here hx rfl (hb hby own_d1_94) rfl rfl ?_
    refine XS.iconst Xoruns3_11.here hx rfl (hb hby own_d1_95) ?_
    refine XS.iload Xoruns3_11.here hx rfl (hb hby own_d1_96) rfl ?_
    refine storuns3_13 _ ?_
    show Steps p.tables e below (Toruns3_13.setTop (mkF m 99 #[.val (.int (3 : Int32)), .val (.int pruns3_1), .val (.int (own_vruns3_0 pruns3_1)), .val (.int (own_vruns3_1 pruns3_1)), .val (.int (own_vruns3_2 pruns3_1)), .val (.int (own_vruns3_3 pruns3_1)), .val (.int (own_vruns3_4 pruns3_1)), .val (.int (own_vruns3_5 pruns3_1))] [(.ref bnruns3_7)])) _
    jvm_step Xoruns3_13.here [Xoruns3_13.here.top, hx, (hb hby own_d1_99), Xoruns3_13.method', Bd.returns, Value.isRef, FieldType.isReference]
    first | (intro acts; rw [hr _ acts rfl rfl rfl]) | rw [hr _ _ rfl rfl rfl]
    exact Steps.refl _
  · show own_Qruns3 Z pruns3_1 h0 n0 _ Toruns3_13.heap _
    rw [eoruns3_13]
    exact ⟨bnruns3_7, knruns3_7, rfl, Nforuns3_13, (((((Keep.refl h0 []).ext Enruns3_7).wr Woruns3_9 (Or.inr sz_bnruns3_7)).wr Woruns3_11 (Or.inr sz_bnruns3_7)).wr Woruns3_13 (Or.inr sz_bnruns3_7)), sz_bnruns3_7, Vworuns3_13⟩
theorem own_d1_100 : decode method_3_code 100 = .ok (.iload_n 0, 1) := by decide +kernel
theorem own_d1_101 : decode method_3_code 101 = .ok (.iconst 4, 1) := by decide +kernel
theorem own_d1_102 : decode method_3_code 102 = .ok (.if_icmp .ne 25, 3) := by decide +kernel
theorem own_d1_105 : decode method_3_code 105 = .ok (.iconst 4, 1) := by decide +kernel
theorem own_d1_106 : decode method_3_code 106 = .ok (.newarray .boolean, 2) := by decide +kernel
theorem own_d1_108 : decode method_3_code 108 = .ok (.dup, 1) := by decide +kernel
theorem own_d1_109 : decode method_3_code 109 = .ok (.iconst 0, 1) := by decide +kernel
theorem own_d1_110 : decode method_3_code 110 = .ok (.iload_n 2, 1) := by decide +kernel
theorem own_d1_111 : decode method_3_code 111 = .ok (.bastore, 1) := by decide +kernel
theorem own_d1_112 : decode method_3_code 112 = .ok (.dup, 1) := by decide +kernel
theorem own_d1_113 : decode method_3_code 113 = .ok (.iconst 1, 1) := by decide +kernel
theorem own_d1_114 : decode method_3_code 114 = .ok (.iload_n 3, 1) := by decide +kernel
theorem own_d1_115 : decode method_3_code 115 = .ok (.bastore, 1) := by decide +kernel
theorem own_d1_116 : decode method_3_code 116 = .ok (.dup, 1) := by decide +kernel
theorem own_d1_117 : decode method_3_code 117 = .ok (.iconst 2, 1) := by decide +kernel
theorem own_d1_118 : decode method_3_code 118 = .ok (.iload 4, 2) := by decide +kernel
theorem own_d1_120 : decode method_3_code 120 = .ok (.bastore, 1) := by decide +kernel
theorem own_d1_121 : decode method_3_code 121 = .ok (.dup, 1) := by decide +kernel
theorem own_d1_122 : decode method_3_code 122 = .ok (.iconst 3, 1) := by decide +kernel
theorem own_d1_123 : decode method_3_code 123 = .ok (.iload 5, 2) := by decide +kernel
theorem own_d1_125 : decode method_3_code 125 = .ok (.bastore, 1) := by decide +kernel
theorem own_d1_126 : decode method_3_code 126 = .ok (.areturn, 1) := by decide +kernel
def own_vruns4_0 (pruns4_1 : Int32) : Int32 := (own_r2_1 pruns4_1 (0 : Int32))
def own_vruns4_1 (pruns4_1 : Int32) : Int32 := (own_r2_1 pruns4_1 (1 : Int32))
def own_vruns4_2 (pruns4_1 : Int32) : Int32 := (own_r2_1 pruns4_1 (2 : Int32))
def own_vruns4_3 (pruns4_1 : Int32) : Int32 := (own_r2_1 pruns4_1 (3 : Int32))
def own_vruns4_4 (pruns4_1 : Int32) : Int32 := (own_r2_1 pruns4_1 (4 : Int32))
def own_vruns4_5 (pruns4_1 : Int32) : Int32 := (own_r2_1 pruns4_1 (5 : Int32))
theorem own_efruns4 (m : MethodId) (pruns4_1 : Int32) : entryFrame m #[(.int (4 : Int32)), (.int pruns4_1)] 8 = mkF m 0 #[.val (.int (4 : Int32)), .val (.int pruns4_1), .unset, .unset, .unset, .unset, .unset, .unset] [] := by first | (simp [entryFrame, mkF, argsToLocals, Value.category]; done) | rfl
def own_Qruns4 (Z : State) (pruns4_1 : Int32) (h0 : Heap) (n0 : Nat) (v : Option Value) (h : Heap) (L : List Loc) : Prop := ∃ (bnruns4_7 : Addr) (knruns4_7 : ClassId), v = some (.ref bnruns4_7) ∧ Fr n0 L ∧ Keep h0 h [] ∧ h0.size ≤ bnruns4_7 ∧ Arv Z h bnruns4_7 knruns4_7 .boolean (4 : Int32) [(.int (nar .boolean (own_vruns4_0 pruns4_1))), (.int (nar .boolean (own_vruns4_1 pruns4_1))), (.int (nar .boolean (own_vruns4_2 pruns4_1))), (.int (nar .boolean (own_vruns4_3 pruns4_1)))] (.int (0 : Int32))
set_option maxRecDepth 65536 in
set_option maxHeartbeats 40000000 in
theorem own_rmruns4 (l : Launch) (Z : State) (a0 : Array Value) (hw : ∀ d ∈ tables_1, d.before a0 Z = true) (ws : List Jvm.Cond) (pruns4_1 : Int32) (h0 : Heap) (n0 : Nat) (Z0 : n0 ≤ h0.size) :
    MetFree l (⟨"com/example/arborway/arborway/sim/WalkRunningCountPinLaw", "runs", "(II)[Z"⟩ : MethodName) (head1 (Jvm.Cond.code (⟨"com/example/arborway/arborway/sim/WalkRunningCountPinLaw", "runs", "(II)[Z"⟩ : MethodName) method_3_code 8 (some (.array .boolean)) :: ws) ({ frames := 1, cells := 1, slots := 4, locals := 13 } : Room)) (fun a U => a = #[(.int (4 : Int32)), (.int pruns4_1)] ∧ Z.Warmed39 U.vm ∧ U.heap = h0) (fun _ _ _ _ _ => True) (fun _ U o U' => ∃ v L, o = .returned v ∧ own_Qruns4 Z pruns4_1 h0 n0 v U'.heap L ∧ FrameEnd U o U' L ({ frames := 1, cells := 1, slots := 4, locals := 13 } : Room).cells ({ frames := 1, cells := 1, slots := 4, locals := 13 } : Room).slots) := by
  refine MetFree.of_bodySF (plainFor_of_name own_pn0) hisR ?_
  intro p e s m args below meth c s₁ Bd hml0 hP hK
  obtain ⟨rfl, hZ, hh⟩ := hP
  have hx := Bd.exec
  have hby := Bd.bytes
  have hml : c.maxLocals = 8 := hml0
  have hown : s.vm.findClass "com/example/arborway/arborway/sim/WalkRunningCountPinLaw" = some m.cls := findClass_of_methodNamed Bd.named
  have hnm := (name_of_methodNamed Bd.named Bd.method).1
  have X0 : Stand p l e ({ frames := 1, cells := 1, slots := 4, locals := 13 } : Room) s m #[(.int (4 : Int32)), (.int pruns4_1)] below meth c s₁ [] 0 0 := Stand.of_body Bd
  have e0 : s₁.heap = h0 := by rw [← hh, Bd.state]; rfl
  have N0 := Fr.nil n0
  have Zr : h0.size ≤ h0.size := Nat.le_refl _
  have pre0 : ∀ t, Steps p.tables e below (s₁.setTop (mkF m 0 #[.val (.int (4 : Int32)), .val (.int pruns4_1), .unset, .unset, .unset, .unset, .unset, .unset] [])) t → Steps p.tables e below (s₁.setTop (entryFrame m #[(.int (4 : Int32)), (.int pruns4_1)] 8)) t := fun t k => castTop (own_efruns4 m pruns4_1) k
  obtain ⟨_, _, ⟨Tkruns4_1, Lkruns4_1, kkruns4_1, nkruns4_1⟩, -, Xkruns4_1, ⟨Lckruns4_1, hQkruns4_1, lkruns4_1, ykruns4_1, zkruns4_1⟩, stkruns4_1⟩ := Jvm.LawKit.callS X0 hx (y := (⟨"com/example/arborway/arborway/sim/WalkRunningCountPinLaw", "bit", "(II)Z"⟩ : MethodName)) hown (mvT hZ (own_W hw 5 rfl)) (mvT hZ (own_W hw 6 rfl)) (mvT hZ (own_W hw 3 rfl)) (mvT hZ (own_W hw 7 rfl)) (by decide) (backOf (W := 0) (own_rm2 l Z a0 hw [] pruns4_1 (0 : Int32) h0 n0 Z0) hZ (own_W hw 7 rfl) (own_W hw 3 rfl) (by decide) (by decide)) (g := (mkF m 2 #[.val (.int (4 : Int32)), .val (.int pruns4_1), .unset, .unset, .unset, .unset, .unset, .unset] [(.int (0 : Int32)), (.int pruns4_1)])) rfl (by rw [hml]; rfl) (argsL := [(.int pruns4_1), (.int (0 : Int32))]) (rest := []) (lenOf own_pd0 rfl) rfl (by show 2 * 0 + _ ≤ _; exact Nat.le_of_eq rfl) (hb hby own_d1_2) (fun _ _ => ⟨rfl, e0, (by decide : 0 + 0 ≤ _), (by decide : 0 + 0 ≤ _)⟩)
  dsimp only [Pt.U, Pt.locs, Pt.cells, Pt.slots] at Xkruns4_1 lkruns4_1 ykruns4_1 zkruns4_1 stkruns4_1 hQkruns4_1
  replace lkruns4_1 := lkruns4_1.symm; replace ykruns4_1 := ykruns4_1.symm; replace zkruns4_1 := zkruns4_1.symm; subst lkruns4_1 ykruns4_1 zkruns4_1
  obtain ⟨rfl, Nkruns4_1q, ekruns4_1⟩ := hQkruns4_1
  have Nkruns4_1 := Fr.app N0 Nkruns4_1q
  obtain ⟨_, _, ⟨Tkruns4_2, Lkruns4_2, kkruns4_2, nkruns4_2⟩, -, Xkruns4_2, ⟨Lckruns4_2, hQkruns4_2, lkruns4_2, ykruns4_2, zkruns4_2⟩, stkruns4_2⟩ := Jvm.LawKit.callS Xkruns4_1 hx (y := (⟨"com/example/arborway/arborway/sim/WalkRunningCountPinLaw", "bit", "(II)Z"⟩ : MethodName)) hown (mvT hZ (own_W hw 5 rfl)) (mvT hZ (own_W hw 6 rfl)) (mvT hZ (own_W hw 3 rfl)) (mvT hZ (own_W hw 7 rfl)) (by decide) (backOf (W := 0) (own_rm2 l Z a0 hw [] pruns4_1 (1 : Int32) h0 n0 Z0) hZ (own_W hw 7 rfl) (own_W hw 3 rfl) (by decide) (by decide)) (g := (mkF m 8 #[.val (.int (4 : Int32)), .val (.int pruns4_1), .val (.int (own_vruns4_0 pruns4_1)), .unset, .unset, .unset, .unset, .unset] [(.int (1 : Int32)), (.int pruns4_1)])) rfl (by rw [hml]; rfl) (argsL := [(.int pruns4_1), (.int (1 : Int32))]) (rest := []) (lenOf own_pd0 rfl) rfl (by show 2 * 0 + _ ≤ _; exact Nat.le_of_eq rfl) (hb hby own_d1_8) (fun _ _ => ⟨rfl, ekruns4_1, (by decide : 0 + 0 ≤ _), (by decide : 0 + 0 ≤ _)⟩)
  dsimp only [Pt.U, Pt.locs, Pt.cells, Pt.slots] at Xkruns4_2 lkruns4_2 ykruns4_2 zkruns4_2 stkruns4_2 hQkruns4_2
  replace lkruns4_2 := lkruns4_2.symm; replace ykruns4_2 := ykruns4_2.symm; replace zkruns4_2 := zkruns4_2.symm; subst lkruns4_2 ykruns4_2 zkruns4_2
  obtain ⟨rfl, Nkruns4_2q, ekruns4_2⟩ := hQkruns4_2
  have Nkruns4_2 := Fr.app Nkruns4_1 Nkruns4_2q
  obtain ⟨_, _, ⟨Tkruns4_3, Lkruns4_3, kkruns4_3, nkruns4_3⟩, -, Xkruns4_3, ⟨Lckruns4_3, hQkruns4_3, lkruns4_3, ykruns4_3, zkruns4_3⟩, stkruns4_3⟩ := Jvm.LawKit.callS Xkruns4_2 hx (y := (⟨"com/example/arborway/arborway/sim/WalkRunningCountPinLaw", "bit", "(II)Z"⟩ : MethodName)) hown (mvT hZ (own_W hw 5 rfl)) (mvT hZ (own_W hw 6 rfl)) (mvT hZ (own_W hw 3 rfl)) (mvT hZ (own_W hw 7 rfl)) (by decide) (backOf (W := 0) (own_rm2 l Z a0 hw [] pruns4_1 (2 : Int32) h0 n0 Z0) hZ (own_W hw 7 rfl) (own_W hw 3 rfl) (by decide) (by decide)) (g := (mkF m 14 #[.val (.int (4 : Int32)), .val (.int pruns4_1), .val (.int (own_vruns4_0 pruns4_1)), .val (.int (own_vruns4_1 pruns4_1)), .unset, .unset, .unset, .unset] [(.int (2 : Int32)), (.int pruns4_1)])) rfl (by rw [hml]; rfl) (argsL := [(.int pruns4_1), (.int (2 : Int32))]) (rest := []) (lenOf own_pd0 rfl) rfl (by show 2 * 0 + _ ≤ _; exact Nat.le_of_eq rfl) (hb hby own_d1_14) (fun _ _ => ⟨rfl, ekruns4_2, (by decide : 0 + 0 ≤ _), (by decide : 0 + 0 ≤ _)⟩)
  dsimp only [Pt.U, Pt.locs, Pt.cells, Pt.slots] at Xkruns4_3 lkruns4_3 ykruns4_3 zkruns4_3 stkruns4_3 hQkruns4_3
  replace lkruns4_3 := lkruns4_3.symm; replace ykruns4_3 := ykruns4_3.symm; replace zkruns4_3 := zkruns4_3.symm; subst lkruns4_3 ykruns4_3 zkruns4_3
  obtain ⟨rfl, Nkruns4_3q, ekruns4_3⟩ := hQkruns4_3
  have Nkruns4_3 := Fr.app Nkruns4_2 Nkruns4_3q
  obtain ⟨_, _, ⟨Tkruns4_4, Lkruns4_4, kkruns4_4, nkruns4_4⟩, -, Xkruns4_4, ⟨Lckruns4_4, hQkruns4_4, lkruns4_4, ykruns4_4, zkruns4_4⟩, stkruns4_4⟩ := Jvm.LawKit.callS Xkruns4_3 hx (y := (⟨"com/example/arborway/arborway/sim/WalkRunningCountPinLaw", "bit", "(II)Z"⟩ : MethodName)) hown (mvT hZ (own_W hw 5 rfl)) (mvT hZ (own_W hw 6 rfl)) (mvT hZ (own_W hw 3 rfl)) (mvT hZ (own_W hw 7 rfl)) (by decide) (backOf (W := 0) (own_rm2 l Z a0 hw [] pruns4_1 (3 : Int32) h0 n0 Z0) hZ (own_W hw 7 rfl) (own_W hw 3 rfl) (by decide) (by decide)) (g := (mkF m 21 #[.val (.int (4 : Int32)), .val (.int pruns4_1), .val (.int (own_vruns4_0 pruns4_1)), .val (.int (own_vruns4_1 pruns4_1)), .val (.int (own_vruns4_2 pruns4_1)), .unset, .unset, .unset] [(.int (3 : Int32)), (.int pruns4_1)])) rfl (by rw [hml]; rfl) (argsL := [(.int pruns4_1), (.int (3 : Int32))]) (rest := []) (lenOf own_pd0 rfl) rfl (by show 2 * 0 + _ ≤ _; exact Nat.le_of_eq rfl) (hb hby own_d1_21) (fun _ _ => ⟨rfl, ekruns4_3, (by decide : 0 + 0 ≤ _), (by decide : 0 + 0 ≤ _)⟩)
  dsimp only [Pt.U, Pt.locs, Pt.cells, Pt.slots] at Xkruns4_4 lkruns4_4 ykruns4_4 zkruns4_4 stkruns4_4 hQkruns4_4
  replace lkruns4_4 := lkruns4_4.symm; replace ykruns4_4 := ykruns4_4.symm; replace zkruns4_4 := zkruns4_4.symm; subst lkruns4_4 ykruns4_4 zkruns4_4
  obtain ⟨rfl, Nkruns4_4q, ekruns4_4⟩ := hQkruns4_4
  have Nkruns4_4 := Fr.app Nkruns4_3 Nkruns4_4q
  obtain ⟨_, _, ⟨Tkruns4_5, Lkruns4_5, kkruns4_5, nkruns4_5⟩, -, Xkruns4_5, ⟨Lckruns4_5, hQkruns4_5, lkruns4_5, ykruns4_5, zkruns4_5⟩, stkruns4_5⟩ := Jvm.LawKit.callS Xkruns4_4 hx (y := (⟨"com/example/arborway/arborway/sim/WalkRunningCountPinLaw", "bit", "(II)Z"⟩ : MethodName)) hown (mvT hZ (own_W hw 5 rfl)) (mvT hZ (own_W hw 6 rfl)) (mvT hZ (own_W hw 3 rfl)) (mvT hZ (own_W hw 7 rfl)) (by decide) (backOf (W := 0) (own_rm2 l Z a0 hw [] pruns4_1 (4 : Int32) h0 n0 Z0) hZ (own_W hw 7 rfl) (own_W hw 3 rfl) (by decide) (by decide)) (g := (mkF m 28 #[.val (.int (4 : Int32)), .val (.int pruns4_1), .val (.int (own_vruns4_0 pruns4_1)), .val (.int (own_vruns4_1 pruns4_1)), .val (.int (own_vruns4_2 pruns4_1)), .val (.int (own_vruns4_3 pruns4_1)), .unset, .unset] [(.int (4 : Int32)), (.int pruns4_1)])) rfl (by rw [hml]; rfl) (argsL := [(.int pruns4_1), (.int (4 : Int32))]) (rest := []) (lenOf own_pd0 rfl) rfl (by show 2 * 0 + _ ≤ _; exact Nat.le_of_eq rfl) (hb hby own_d1_28) (fun _ _ => ⟨rfl, ekruns4_4, (by decide : 0 + 0 ≤ _), (by decide : 0 + 0 ≤ _)⟩)
  dsimp only [Pt.U, Pt.locs, Pt.cells, Pt.slots] at Xkruns4_5 lkruns4_5 ykruns4_5 zkruns4_5 stkruns4_5 hQkruns4_5
  replace lkruns4_5 := lkruns4_5.symm; replace ykruns4_5 := ykruns4_5.symm; replace zkruns4_5 := zkruns4_5.symm; subst lkruns4_5 ykruns4_5 zkruns4_5
  obtain ⟨rfl, Nkruns4_5q, ekruns4_5⟩ := hQkruns4_5
  have Nkruns4_5 := Fr.app Nkruns4_4 Nkruns4_5q
  obtain ⟨_, _, ⟨Tkruns4_6, Lkruns4_6, kkruns4_6, nkruns4_6⟩, -, Xkruns4_6, ⟨Lckruns4_6, hQkruns4_6, lkruns4_6, ykruns4_6, zkruns4_6⟩, stkruns4_6⟩ := Jvm.LawKit.callS Xkruns4_5 hx (y := (⟨"com/example/arborway/arborway/sim/WalkRunningCountPinLaw", "bit", "(II)Z"⟩ : MethodName)) hown (mvT hZ (own_W hw 5 rfl)) (mvT hZ (own_W hw 6 rfl)) (mvT hZ (own_W hw 3 rfl)) (mvT hZ (own_W hw 7 rfl)) (by decide) (backOf (W := 0) (own_rm2 l Z a0 hw [] pruns4_1 (5 : Int32) h0 n0 Z0) hZ (own_W hw 7 rfl) (own_W hw 3 rfl) (by decide) (by decide)) (g := (mkF m 35 #[.val (.int (4 : Int32)), .val (.int pruns4_1), .val (.int (own_vruns4_0 pruns4_1)), .val (.int (own_vruns4_1 pruns4_1)), .val (.int (own_vruns4_2 pruns4_1)), .val (.int (own_vruns4_3 pruns4_1)), .val (.int (own_vruns4_4 pruns4_1)), .unset] [(.int (5 : Int32)), (.int pruns4_1)])) rfl (by rw [hml]; rfl) (argsL := [(.int pruns4_1), (.int (5 : Int32))]) (rest := []) (lenOf own_pd0 rfl) rfl (by show 2 * 0 + _ ≤ _; exact Nat.le_of_eq rfl) (hb hby own_d1_35) (fun _ _ => ⟨rfl, ekruns4_5, (by decide : 0 + 0 ≤ _), (by decide : 0 + 0 ≤ _)⟩)
  dsimp only [Pt.U, Pt.locs, Pt.cells, Pt.slots] at Xkruns4_6 lkruns4_6 ykruns4_6 zkruns4_6 stkruns4_6 hQkruns4_6
  replace lkruns4_6 := lkruns4_6.symm; replace ykruns4_6 := ykruns4_6.symm; replace zkruns4_6 := zkruns4_6.symm; subst lkruns4_6 ykruns4_6 zkruns4_6
  obtain ⟨rfl, Nkruns4_6q, ekruns4_6⟩ := hQkruns4_6
  have Nkruns4_6 := Fr.app Nkruns4_5 Nkruns4_6q
  obtain ⟨Tnruns4_7, hnruns4_7, knruns4_7, Xnruns4_7, enruns4_7, Enruns4_7, Anruns4_7, stnruns4_7⟩ := newP Xkruns4_6 hx hZ (own_W hw 8 rfl) ekruns4_6 (g := (mkF m 106 #[.val (.int (4 : Int32)), .val (.int pruns4_1), .val (.int (own_vruns4_0 pruns4_1)), .val (.int (own_vruns4_1 pruns4_1)), .val (.int (own_vruns4_2 pruns4_1)), .val (.int (own_vruns4_3 pruns4_1)), .val (.int (own_vruns4_4 pruns4_1)), .val (.int (own_vruns4_5 pruns4_1))] [(.int (4 : Int32))])) rfl (hb hby own_d1_106) rfl (by decide) (cap := 4) (by decide) (by decide) (by decide) (by decide)
  obtain ⟨bnruns4_7, gnruns4_7⟩ : ∃ z, z = h0.size := ⟨_, rfl⟩
  rw [← gnruns4_7] at Anruns4_7 stnruns4_7
  have g_bnruns4_7 : n0 ≤ bnruns4_7 := Nat.le_trans Z0 (Nat.le_of_eq gnruns4_7.symm)
  have sz_bnruns4_7 : h0.size ≤ bnruns4_7 := Nat.le_trans Zr (Nat.le_of_eq gnruns4_7.symm)
  have szruns4_8 : h0.size ≤ hnruns4_7.size := Nat.le_trans Zr Enruns4_7.1
  have V_bnruns4_7 : Arv Z hnruns4_7 bnruns4_7 knruns4_7 .boolean (4 : Int32) [(.int (0 : Int32)), (.int (0 : Int32)), (.int (0 : Int32)), (.int (0 : Int32))] (.int (0 : Int32)) := (Arv.new Anruns4_7 (by decide)).pad (pad_rep [] (.int (0 : Int32)) 4)
  have Ooruns4_9 := V_bnruns4_7
  obtain ⟨cloruns4_9, Aroruns4_9, qoruns4_9, Soruns4_9, Noruns4_9, Horuns4_9, Goruns4_9⟩ := Ooruns4_9
  have hinoruns4_9 : ¬ ((0 : Int32) < 0 ∨ cloruns4_9.slots.size ≤ ((0 : Int32)).toNatClampNeg) := inb_of Soruns4_9 ⟨by decide, by decide⟩
  obtain ⟨Toruns4_9, horuns4_9, Xoruns4_9, eoruns4_9, Woruns4_9, storuns4_9⟩ := stZ Xnruns4_7 hx hZ enruns4_7 Aroruns4_9 (j := (0 : Int32)) hinoruns4_9 (g := (mkF m 111 #[.val (.int (4 : Int32)), .val (.int pruns4_1), .val (.int (own_vruns4_0 pruns4_1)), .val (.int (own_vruns4_1 pruns4_1)), .val (.int (own_vruns4_2 pruns4_1)), .val (.int (own_vruns4_3 pruns4_1)), .val (.int (own_vruns4_4 pruns4_1)), .val (.int (own_vruns4_5 pruns4_1))] [(.int (own_vruns4_0 pruns4_1)), (.int (0 : Int32)), (.ref bnruns4_7), (.ref bnruns4_7)])) rfl rfl (hb hby own_d1_111)
  have Vworuns4_9 : Arv Z horuns4_9 bnruns4_7 knruns4_7 .boolean (4 : Int32) [(.int (nar .boolean (own_vruns4_0 pruns4_1))), (.int (0 : Int32)), (.int (0 : Int32)), (.int (0 : Int32))] (.int (0 : Int32)) := Arv.set Aroruns4_9 qoruns4_9 Soruns4_9 Noruns4_9 Horuns4_9 Goruns4_9 (fits_nar_bool _) Woruns4_9 0 rfl (Nat.le_of_ble_eq_true rfl)
  have szruns4_10 : h0.size ≤ horuns4_9.size := Nat.le_trans szruns4_8 (Nat.le_of_eq Woruns4_9.size.symm)
  have Nforuns4_9 := Fr.snoc Xoruns4_9 Nkruns4_6 g_bnruns4_7
  have Ooruns4_11 := Vworuns4_9
  obtain ⟨cloruns4_11, Aroruns4_11, qoruns4_11, Soruns4_11, Noruns4_11, Horuns4_11, Goruns4_11⟩ := Ooruns4_11
  have hinoruns4_11 : ¬ ((1 : Int32) < 0 ∨ cloruns4_11.slots.size ≤ ((1 : Int32)).toNatClampNeg) := inb_of Soruns4_11 ⟨by decide, by decide⟩
  obtain ⟨Toruns4_11, horuns4_11, Xoruns4_11, eoruns4_11, Woruns4_11, storuns4_11⟩ := stZ Xoruns4_9 hx hZ eoruns4_9 Aroruns4_11 (j := (1 : Int32)) hinoruns4_11 (g := (mkF m 115 #[.val (.int (4 : Int32)), .val (.int pruns4_1), .val (.int (own_vruns4_0 pruns4_1)), .val (.int (own_vruns4_1 pruns4_1)), .val (.int (own_vruns4_2 pruns4_1)), .val (.int (own_vruns4_3 pruns4_1)), .val (.int (own_vruns4_4 pruns4_1)), .val (.int (own_vruns4_5 pruns4_1))] [(.int (own_vruns4_1 pruns4_1)), (.int (1 : Int32)), (.ref bnruns4_7), (.ref bnruns4_7)])) rfl rfl (hb hby own_d1_115)
  have Vworuns4_11 : Arv Z horuns4_11 bnruns4_7 knruns4_7 .boolean (4 : Int32) [(.int (nar .boolean (own_vruns4_0 pruns4_1))), (.int (nar .boolean (own_vruns4_1 pruns4_1))), (.int (0 : Int32)), (.int (0 : Int32))] (.int (0 : Int32)) := Arv.set Aroruns4_11 qoruns4_11 Soruns4_11 Noruns4_11 Horuns4_11 Goruns4_11 (fits_nar_bool _) Woruns4_11 1 rfl (Nat.le_of_ble_eq_true rfl)
  have szruns4_12 : h0.size ≤ horuns4_11.size := Nat.le_trans szruns4_10 (Nat.le_of_eq Woruns4_11.size.symm)
  have Nforuns4_11 := Fr.snoc Xoruns4_11 Nforuns4_9 g_bnruns4_7
  have Ooruns4_13 := Vworuns4_11
  obtain ⟨cloruns4_13, Aroruns4_13, qoruns4_13, Soruns4_13, Noruns4_13, Horuns4_13, Goruns4_13⟩ := Ooruns4_13
  have hinoruns4_13 : ¬ ((2 : Int32) < 0 ∨ cloruns4_13.slots.size ≤ ((2 : Int32)).toNatClampNeg) := inb_of Soruns4_13 ⟨by decide, by decide⟩
  obtain ⟨Toruns4_13, horuns4_13, Xoruns4_13, eoruns4_13, Woruns4_13, storuns4_13⟩ := stZ Xoruns4_11 hx hZ eoruns4_11 Aroruns4_13 (j := (2 : Int32)) hinoruns4_13 (g := (mkF m 120 #[.val (.int (4 : Int32)), .val (.int pruns4_1), .val (.int (own_vruns4_0 pruns4_1)), .val (.int (own_vruns4_1 pruns4_1)), .val (.int (own_vruns4_2 pruns4_1)), .val (.int (own_vruns4_3 pruns4_1)), .val (.int (own_vruns4_4 pruns4_1)), .val (.int (own_vruns4_5 pruns4_1))] [(.int (own_vruns4_2 pruns4_1)), (.int (2 : Int32)), (.ref bnruns4_7), (.ref bnruns4_7)])) rfl rfl (hb hby own_d1_120)
  have Vworuns4_13 : Arv Z horuns4_13 bnruns4_7 knruns4_7 .boolean (4 : Int32) [(.int (nar .boolean (own_vruns4_0 pruns4_1))), (.int (nar .boolean (own_vruns4_1 pruns4_1))), (.int (nar .boolean (own_vruns4_2 pruns4_1))), (.int (0 : Int32))] (.int (0 : Int32)) := Arv.set Aroruns4_13 qoruns4_13 Soruns4_13 Noruns4_13 Horuns4_13 Goruns4_13 (fits_nar_bool _) Woruns4_13 2 rfl (Nat.le_of_ble_eq_true rfl)
  have szruns4_14 : h0.size ≤ horuns4_13.size := Nat.le_trans szruns4_12 (Nat.le_of_eq Woruns4_13.size.symm)
  have Nforuns4_13 := Fr.snoc Xoruns4_13 Nforuns4_11 g_bnruns4_7
  have Ooruns4_15 := Vworuns4_13
  obtain ⟨cloruns4_15, Aroruns4_15, qoruns4_15, Soruns4_15, Noruns4_15, Horuns4_15, Goruns4_15⟩ := Ooruns4_15
  have hinoruns4_15 : ¬ ((3 : Int32) < 0 ∨ cloruns4_15.slots.size ≤ ((3 : Int32)).toNatClampNeg) := inb_of Soruns4_15 ⟨by decide, by decide⟩
  obtain ⟨Toruns4_15, horuns4_15, Xoruns4_15, eoruns4_15, Woruns4_15, storuns4_15⟩ := stZ Xoruns4_13 hx hZ eoruns4_13 Aroruns4_15 (j := (3 : Int32)) hinoruns4_15 (g := (mkF m 125 #[.val (.int (4 : Int32)), .val (.int pruns4_1), .val (.int (own_vruns4_0 pruns4_1)), .val (.int (own_vruns4_1 pruns4_1)), .val (.int (own_vruns4_2 pruns4_1)), .val (.int (own_vruns4_3 pruns4_1)), .val (.int (own_vruns4_4 pruns4_1)), .val (.int (own_vruns4_5 pruns4_1))] [(.int (own_vruns4_3 pruns4_1)), (.int (3 : Int32)), (.ref bnruns4_7), (.ref bnruns4_7)])) rfl rfl (hb hby own_d1_125)
  have Vworuns4_15 : Arv Z horuns4_15 bnruns4_7 knruns4_7 .boolean (4 : Int32) [(.int (nar .boolean (own_vruns4_0 pruns4_1))), (.int (nar .boolean (own_vruns4_1 pruns4_1))), (.int (nar .boolean (own_vruns4_2 pruns4_1))), (.int (nar .boolean (own_vruns4_3 pruns4_1)))] (.int (0 : Int32)) := Arv.set Aroruns4_15 qoruns4_15 Soruns4_15 Noruns4_15 Horuns4_15 Goruns4_15 (fits_nar_bool _) Woruns4_15 3 rfl (Nat.le_of_ble_eq_true rfl)
  have szruns4_16 : h0.size ≤ horuns4_15.size := Nat.le_trans szruns4_14 (Nat.le_of_eq Woruns4_15.size.symm)
  have Nforuns4_15 := Fr.snoc Xoruns4_15 Nforuns4_13 g_bnruns4_7
  obtain ⟨fs, hr, hrun, hended, hW, hsame⟩ := Xoruns4_15.leave (v := some (.ref bnruns4_7)) (fun h => by rw [Bd.returns] at h; cases h)
  refine ⟨_, _, pre0 _ (?_), hrun, hended, _, _, rfl, ?_, ⟨_, rfl⟩, hW, hsame.mono (by decide) (by decide)⟩
  · show Steps p.tables e below (s₁.setTop (mkF m 0 #[.val (.int (4 : Int32)), .val (.int pruns4_1), .unset, .unset, .unset, .unset, .unset, .unset] [])) _
    refine XS.iloadN X0.here hx rfl (hb hby own_d1_0) rfl ?_
    refine XS.iconst X0.here hx rfl (hb hby own_d1_1) ?_
    refine stkruns4_1 _ ?_
    show Steps p.tables e below (Tkruns4_1.setTop (mkF m 5 #[.val (.int (4 : Int32)), .val (.int pruns4_1), .unset, .unset, .unset, .unset, .unset, .unset] [(.int (own_r2_1 pruns4_1 (0 : Int32)))])) _
    refine XS.istoreN Xkruns4_1.here hx rfl (hb hby own_d1_5) rfl (l' := #[.val (.int (4 : Int32)), .val (.int pruns4_1), .val (.int (own_vruns4_0 pruns4_1)), .unset, .unset, .unset, .unset, .unset]) rfl ?_
    refine XS.iloadN Xkruns4_1.here hx rfl (hb hby own_d1_6) rfl ?_
    refine XS.iconst Xkruns4_1.here hx rfl (hb hby own_d1_7) ?_
    refine stkruns4_2 _ ?_
    show Steps p.tables e below (Tkruns4_2.setTop (mkF m 11 #[.val (.int (4 : Int32)), .val (.int pruns4_1), .val (.int (own_vruns4_0 pruns4_1)), .unset, .unset, .unset, .unset, .unset] [(.int (own_r2_1 pruns4_1 (1 : Int32)))])) _
    refine XS.istoreN Xkruns4_2.here hx rfl (hb hby own_d1_11) rfl (l' := #[.val (.int (4 : Int32)), .val (.int pruns4_1), .val (.int (own_vruns4_0 pruns4_1)), .val (.int (own_vruns4_1 pruns4_1)), .unset, .unset, .unset, .unset]) rfl ?_
    refine XS.iloadN Xkruns4_2.here hx rfl (hb hby own_d1_12) rfl ?_
    refine XS.iconst Xkruns4_2.here hx rfl (hb hby own_d1_13) ?_
    refine stkruns4_3 _ ?_
    show Steps p.tables e below (Tkruns4_3.setTop (mkF m 17 #[.val (.int (4 : Int32)), .val (.int pruns4_1), .val (.int (own_vruns4_0 pruns4_1)), .val (.int (own_vruns4_1 pruns4_1)), .unset, .unset, .unset, .unset] [(.int (own_r2_1 pruns4_1 (2 : Int32)))])) _
    refine XS.istore Xkruns4_3.here hx rfl (hb hby own_d1_17) rfl (l' := #[.val (.int (4 : Int32)), .val (.int pruns4_1), .val (.int (own_vruns4_0 pruns4_1)), .val (.int (own_vruns4_1 pruns4_1)), .val (.int (own_vruns4_2 pruns4_1)), .unset, .unset, .unset]) rfl ?_
    refine XS.iloadN Xkruns4_3.here hx rfl (hb hby own_d1_19) rfl ?_
    refine XS.iconst Xkruns4_3.here hx rfl (hb hby own_d1_20) ?_
    refine stkruns4_4 _ ?_
    show Steps p.tables e below (Tkruns4_4.setTop (mkF m 24 #[.val (.int (4 : Int32)), .val (.int pruns4_1), .val (.int (own_vruns4_0 pruns4_1)), .val (.int (own_vruns4_1 pruns4_1)), .val (.int (own_vruns4_2 pruns4_1)), .unset, .unset, .unset] [(.int (own_r2_1 pruns4_1 (3 : Int32)))])) _
    refine XS.istore Xkruns4_4.here hx rfl (hb hby own_d1_24) rfl (l' := #[.val (.int (4 : Int32)), .val (.int pruns4_1), .val (.int (own_vruns4_0 pruns4_1)), .val (.int (own_vruns4_1 pruns4_1)), .val (.int (own_vruns4_2 pruns4_1)), .val (.int (own_vruns4_3 pruns4_1)), .unset, .unset]) rfl ?_
    refine XS.iloadN Xkruns4_4.here hx rfl (hb hby own_d1_26) rfl ?_
    refine XS.iconst Xkruns4_4.here hx rfl (hb hby own_d1_27) ?_
    refine stkruns4_5 _ ?_
    show Steps p.tables e below (Tkruns4_5.setTop (mkF m 31 #[.val (.int (4 : Int32)), .val (.int pruns4_1), .val (.int (own_vruns4_0 pruns4_1)), .val (.int (own_vruns4_1 pruns4_1)), .val (.int (own_vruns4_2 pruns4_1)), .val (.int (own_vruns4_3 pruns4_1)), .unset, .unset] [(.int (own_r2_1 pruns4_1 (4 : Int32)))])) _
    refine XS.istore Xkruns4_5.here hx rfl (hb hby own_d1_31) rfl (l' := #[.val (.int (4 : Int32)), .val (.int pruns4_1), .val (.int (own_vruns4_0 pruns4_1)), .val (.int (own_vruns4_1 pruns4_1)), .val (.int (own_vruns4_2 pruns4_1)), .val (.int (own_vruns4_3 pruns4_1)), .val (.int (own_vruns4_4 pruns4_1)), .unset]) rfl ?_
    refine XS.iloadN Xkruns4_5.here hx rfl (hb hby own_d1_33) rfl ?_
    refine XS.iconst Xkruns4_5.here hx rfl (hb hby own_d1_34) ?_
    refine stkruns4_6 _ ?_
    show Steps p.tables e below (Tkruns4_6.setTop (mkF m 38 #[.val (.int (4 : Int32)), .val (.int pruns4_1), .val (.int (own_vruns4_0 pruns4_1)), .val (.int (own_vruns4_1 pruns4_1)), .val (.int (own_vruns4_2 pruns4_1)), .val (.int (own_vruns4_3 pruns4_1)), .val (.int (own_vruns4_4 pruns4_1)), .unset] [(.int (own_r2_1 pruns4_1 (5 : Int32)))])) _
    refine XS.istore Xkruns4_6.here hx rfl (hb hby own_d1_38) rfl (l' := #[.val (.int (4 : Int32)), .val (.int pruns4_1), .val (.int (own_vruns4_0 pruns4_1)), .val (.int (own_vruns4_1 pruns4_1)), .val (.int (own_vruns4_2 pruns4_1)), .val (.int (own_vruns4_3 pruns4_1)), .val (.int (own_vruns4_4 pruns4_1)), .val (.int (own_vruns4_5 pruns4_1))]) rfl ?_
    refine XS.iloadN Xkruns4_6.here hx rfl (hb hby own_d1_40) rfl ?_
    refine XS.ifYes Xkruns4_6.here hx rfl (pc0 := 41) (pc' := 48) rfl (hb hby own_d1_41) rfl (XT.i0_ne_t (by decide : ¬ ((4 : Int32) = (0 : Int32)))) (by decide) (by decide) ?_
    refine XS.iloadN Xkruns4_6.here hx rfl (hb hby own_d1_48) rfl ?_
    refine XS.iconst Xkruns4_6.here hx rfl (hb hby own_d1_49) ?_
    refine XS.icmpYes Xkruns4_6.here hx rfl (pc0 := 50) (pc' := 61) rfl (hb hby own_d1_50) rfl (XT.ii_ne_t (by decide : ¬ ((4 : Int32) = (1 : Int32)))) (by decide) (by decide) ?_
    refine XS.iloadN Xkruns4_6.here hx rfl (hb hby own_d1_61) rfl ?_
    refine XS.iconst Xkruns4_6.here hx rfl (hb hby own_d1_62) ?_
    refine XS.icmpYes Xkruns4_6.here hx rfl (pc0 := 63) (pc' := 78) rfl (hb hby own_d1_63) rfl (XT.ii_ne_t (by decide : ¬ ((4 : Int32) = (2 : Int32)))) (by decide) (by decide) ?_
    refine XS.iloadN Xkruns4_6.here hx rfl (hb hby own_d1_78) rfl ?_
    refine XS.iconst Xkruns4_6.here hx rfl (hb hby own_d1_79) ?_
    refine XS.icmpYes Xkruns4_6.here hx rfl (pc0 := 80) (pc' := 100) rfl (hb hby own_d1_80) rfl (XT.ii_ne_t (by decide : ¬ ((4 : Int32) = (3 : Int32)))) (by decide) (by decide) ?_
    refine XS.iloadN Xkruns4_6.here hx rfl (hb hby own_d1_100) rfl ?_
    refine XS.iconst Xkruns4_6.here hx rfl (hb hby own_d1_101) ?_
    refine XS.icmpNo Xkruns4_6.here hx rfl (hb hby own_d1_102) rfl (XT.ii_ne_f (by decide : (4 : Int32) = (4 : Int32))) ?_
    refine XS.iconst Xkruns4_6.here hx rfl (hb hby own_d1_105) ?_
    refine stnruns4_7 _ ?_
    show Steps p.tables e below (Tnruns4_7.setTop (mkF m 108 #[.val (.int (4 : Int32)), .val (.int pruns4_1), .val (.int (own_vruns4_0 pruns4_1)), .val (.int (own_vruns4_1 pruns4_1)), .val (.int (own_vruns4_2 pruns4_1)), .val (.int (own_vruns4_3 pruns4_1)), .val (.int (own_vruns4_4 pruns4_1)), .val (.int (own_vruns4_5 pruns4_1))] [(.ref bnruns4_7)])) _
    refine XS.dup Xnruns4_7.here hx rfl (hb hby own_d1_108) rfl rfl ?_
    refine XS.iconst Xnruns4_7.here hx rfl (hb hby own_d1_109) ?_
    refine XS.iloadN Xnruns4_7.here hx rfl (hb hby own_d1_110) rfl ?_
    refine storuns4_9 _ ?_
    show Steps p.tables e below (Toruns4_9.setTop (mkF m 112 #[.val (.int (4 : Int32)), .val (.int pruns4_1), .val (.int (own_vruns4_0 pruns4_1)), .val (.int (own_vruns4_1 pruns4_1)), .val (.int (own_vruns4_2 pruns4_1)), .val (.int (own_vruns4_3 pruns4_1)), .val (.int (own_vruns4_4 pruns4_1)), .val (.int (own_vruns4_5 pruns4_1))] [(.ref bnruns4_7)])) _
    refine XS.dup Xoruns4_9.here hx rfl (hb hby own_d1_112) rfl rfl ?_
    refine XS.iconst Xoruns4_9.here hx rfl (hb hby own_d1_113) ?_
    refine XS.iloadN Xoruns4_9.here hx rfl (hb hby own_d1_114) rfl ?_
    refine storuns4_11 _ ?_
    show Steps p.tables e below (Toruns4_11.setTop (mkF m 116 #[.val (.int (4 : Int32)), .val (.int pruns4_1), .val (.int (own_vruns4_0 pruns4_1)), .val (.int (own_vruns4_1 pruns4_1)), .val (.int (own_vruns4_2 pruns4_1)), .val (.int (own_vruns4_3 pruns4_1)), .val (.int (own_vruns4_4 pruns4_1)), .val (.int (own_vruns4_5 pruns4_1))] [(.ref bnruns4_7)])) _
    refine XS.dup Xoruns4_11.here hx rfl (hb hby own_d1_116) rfl rfl ?_
    refine XS.iconst Xoruns4_11.here hx rfl (hb hby own_d1_117) ?_
    refine XS.iload Xoruns4_11.here hx rfl (hb hby own_d1_118) rfl ?_
    refine storuns4_13 _ ?_
    show Steps p.tables e below (Toruns4_13.setTop (mkF m 121 #[.val (.int (4 : Int32)), .val (.int pruns4_1), .val (.int (own_vruns4_0 pruns4_1)), .val (.int (own_vruns4_1 pruns4_1)), .val (.int (own_vruns4_2 pruns4_1)), .val (.int (own_vruns4_3 pruns4_1)), .val (.int (own_vruns4_4 pruns4_1)), .val (.int (own_vruns4_5 pruns4_1))] [(.ref bnruns4_7)])) _
    refine XS.dup Xoruns4_13.here hx rfl (hb hby own_d1_121) rfl rfl ?_
    refine XS.iconst Xoruns4_13.here hx rfl (hb hby own_d1_122) ?_
    refine XS.iload Xoruns4_13.here hx rfl (hb hby own_d1_123) rfl ?_
    refine storuns4_15 _ ?_
    show Steps p.tables e below (Toruns4_15.setTop (mkF m 126 #[.val (.int (4 : Int32)), .val (.int pruns4_1), .val (.int (own_vruns4_0 pruns4_1)), .val (.int (own_vruns4_1 pruns4_1)), .val (.int (own_vruns4_2 pruns4_1)), .val (.int (own_vruns4_3 pruns4_1)), .val (.int (own_vruns4_4 pruns4_1)), .val (.int (own_vruns4_5 pruns4_1))] [(.ref bnruns4_7)])) _
    jvm_step Xoruns4_15.here [Xoruns4_15.here.top, hx, (hb hby own_d1_126), Xoruns4_15.method', Bd.returns, Value.isRef, FieldType.isReference]
    first | (intro acts; rw [hr _ acts rfl rfl rfl]) | rw [hr _ _ rfl rfl rfl]
    exact Steps.refl _
  · show own_Qruns4 Z pruns4_1 h0 n0 _ Toruns4_15.heap _
    rw [eoruns4_15]
    exact ⟨bnruns4_7, knruns4_7, rfl, Nforuns4_15, ((((((Keep.refl h0 []).ext Enruns4_7).wr Woruns4_9 (Or.inr sz_bnruns4_7)).wr Woruns4_11 (Or.inr sz_bnruns4_7)).wr Woruns4_13 (Or.inr sz_bnruns4_7)).wr Woruns4_15 (Or.inr sz_bnruns4_7)), sz_bnruns4_7, Vworuns4_15⟩
theorem own_d1_127 : decode method_3_code 127 = .ok (.iload_n 0, 1) := by decide +kernel
theorem own_d1_128 : decode method_3_code 128 = .ok (.iconst 5, 1) := by decide +kernel
theorem own_d1_129 : decode method_3_code 129 = .ok (.if_icmp .ne 30, 3) := by decide +kernel
theorem own_d1_132 : decode method_3_code 132 = .ok (.iconst 5, 1) := by decide +kernel
theorem own_d1_133 : decode method_3_code 133 = .ok (.newarray .boolean, 2) := by decide +kernel
theorem own_d1_135 : decode method_3_code 135 = .ok (.dup, 1) := by decide +kernel
theorem own_d1_136 : decode method_3_code 136 = .ok (.iconst 0, 1) := by decide +kernel
theorem own_d1_137 : decode method_3_code 137 = .ok (.iload_n 2, 1) := by decide +kernel
theorem own_d1_138 : decode method_3_code 138 = .ok (.bastore, 1) := by decide +kernel
theorem own_d1_139 : decode method_3_code 139 = .ok (.dup, 1) := by decide +kernel
theorem own_d1_140 : decode method_3_code 140 = .ok (.iconst 1, 1) := by decide +kernel
theorem own_d1_141 : decode method_3_code 141 = .ok (.iload_n 3, 1) := by decide +kernel
theorem own_d1_142 : decode method_3_code 142 = .ok (.bastore, 1) := by decide +kernel
theorem own_d1_143 : decode method_3_code 143 = .ok (.dup, 1) := by decide +kernel
theorem own_d1_144 : decode method_3_code 144 = .ok (.iconst 2, 1) := by decide +kernel
theorem own_d1_145 : decode method_3_code 145 = .ok (.iload 4, 2) := by decide +kernel
theorem own_d1_147 : decode method_3_code 147 = .ok (.bastore, 1) := by decide +kernel
theorem own_d1_148 : decode method_3_code 148 = .ok (.dup, 1) := by decide +kernel
theorem own_d1_149 : decode method_3_code 149 = .ok (.iconst 3, 1) := by decide +kernel
theorem own_d1_150 : decode method_3_code 150 = .ok (.iload 5, 2) := by decide +kernel
theorem own_d1_152 : decode method_3_code 152 = .ok (.bastore, 1) := by decide +kernel
theorem own_d1_153 : decode method_3_code 153 = .ok (.dup, 1) := by decide +kernel
theorem own_d1_154 : decode method_3_code 154 = .ok (.iconst 4, 1) := by decide +kernel
theorem own_d1_155 : decode method_3_code 155 = .ok (.iload 6, 2) := by decide +kernel
theorem own_d1_157 : decode method_3_code 157 = .ok (.bastore, 1) := by decide +kernel
theorem own_d1_158 : decode method_3_code 158 = .ok (.areturn, 1) := by decide +kernel
def own_vruns5_0 (pruns5_1 : Int32) : Int32 := (own_r2_1 pruns5_1 (0 : Int32))
def own_vruns5_1 (pruns5_1 : Int32) : Int32 := (own_r2_1 pruns5_1 (1 : Int32))
def own_vruns5_2 (pruns5_1 : Int32) : Int32 := (own_r2_1 pruns5_1 (2 : Int32))
def own_vruns5_3 (pruns5_1 : Int32) : Int32 := (own_r2_1 pruns5_1 (3 : Int32))
def own_vruns5_4 (pruns5_1 : Int32) : Int32 := (own_r2_1 pruns5_1 (4 : Int32))
def own_vruns5_5 (pruns5_1 : Int32) : Int32 := (own_r2_1 pruns5_1 (5 : Int32))
theorem own_efruns5 (m : MethodId) (pruns5_1 : Int32) : entryFrame m #[(.int (5 : Int32)), (.int pruns5_1)] 8 = mkF m 0 #[.val (.int (5 : Int32)), .val (.int pruns5_1), .unset, .unset, .unset, .unset, .unset, .unset] [] := by first | (simp [entryFrame, mkF, argsToLocals, Value.category]; done) | rfl
def own_Qruns5 (Z : State) (pruns5_1 : Int32) (h0 : Heap) (n0 : Nat) (v : Option Value) (h : Heap) (L : List Loc) : Prop := ∃ (bnruns5_7 : Addr) (knruns5_7 : ClassId), v = some (.ref bnruns5_7) ∧ Fr n0 L ∧ Keep h0 h [] ∧ h0.size ≤ bnruns5_7 ∧ Arv Z h bnruns5_7 knruns5_7 .boolean (5 : Int32) [(.int (nar .boolean (own_vruns5_0 pruns5_1))), (.int (nar .boolean (own_vruns5_1 pruns5_1))), (.int (nar .boolean (own_vruns5_2 pruns5_1))), (.int (nar .boolean (own_vruns5_3 pruns5_1))), (.int (nar .boolean (own_vruns5_4 pruns5_1)))] (.int (0 : Int32))
set_option maxRecDepth 65536 in
set_option maxHeartbeats 40000000 in
theorem own_rmruns5 (l : Launch) (Z : State) (a0 : Array Value) (hw : ∀ d ∈ tables_1, d.before a0 Z = true) (ws : List Jvm.Cond) (pruns5_1 : Int32) (h0 : Heap) (n0 : Nat) (Z0 : n0 ≤ h0.size) :
    MetFree l (⟨"com/example/arborway/arborway/sim/WalkRunningCountPinLaw", "runs", "(II)[Z"⟩ : MethodName) (head1 (Jvm.Cond.code (⟨"com/example/arborway/arborway/sim/WalkRunningCountPinLaw", "runs", "(II)[Z"⟩ : MethodName) method_3_code 8 (some (.array .boolean)) :: ws) ({ frames := 1, cells := 1, slots := 5, locals := 13 } : Room)) (fun a U => a = #[(.int (5 : Int32)), (.int pruns5_1)] ∧ Z.Warmed39 U.vm ∧ U.heap = h0) (fun _ _ _ _ _ => True) (fun _ U o U' => ∃ v L, o = .returned v ∧ own_Qruns5 Z pruns5_1 h0 n0 v U'.heap L ∧ FrameEnd U o U' L ({ frames := 1, cells := 1, slots := 5, locals := 13 } : Room).cells ({ frames := 1, cells := 1, slots := 5, locals := 13 } : Room).slots) := by
  refine MetFree.of_bodySF (plainFor_of_name own_pn0) hisR ?_
  intro p e s m args below meth c s₁ Bd hml0 hP hK
  obtain ⟨rfl, hZ, hh⟩ := hP
  have hx := Bd.exec
  have hby := Bd.bytes
  have hml : c.maxLocals = 8 := hml0
  have hown : s.vm.findClass "com/example/arborway/arborway/sim/WalkRunningCountPinLaw" = some m.cls := findClass_of_methodNamed Bd.named
  have hnm := (name_of_methodNamed Bd.named Bd.method).1
  have X0 : Stand p l e ({ frames := 1, cells := 1, slots := 5, locals := 13 } : Room) s m #[(.int (5 : Int32)), (.int pruns5_1)] below meth c s₁ [] 0 0 := Stand.of_body Bd
  have e0 : s₁.heap = h0 := by rw [← hh, Bd.state]; rfl
  have N0 := Fr.nil n0
  have Zr : h0.size ≤ h0.size := Nat.le_refl _
  have pre0 : ∀ t, Steps p.tables e below (s₁.setTop (mkF m 0 #[.val (.int (5 : Int32)), .val (.int pruns5_1), .unset, .unset, .unset, .unset, .unset, .unset] [])) t → Steps p.tables e below (s₁.setTop (entryFrame m #[(.int (5 : Int32)), (.int pruns5_1)] 8)) t := fun t k => castTop (own_efruns5 m pruns5_1) k
  obtain ⟨_, _, ⟨Tkruns5_1, Lkruns5_1, kkruns5_1, nkruns5_1⟩, -, Xkruns5_1, ⟨Lckruns5_1, hQkruns5_1, lkruns5_1, ykruns5_1, zkruns5_1⟩, stkruns5_1⟩ := Jvm.LawKit.callS X0 hx (y := (⟨"com/example/arborway/arborway/sim/WalkRunningCountPinLaw", "bit", "(II)Z"⟩ : MethodName)) hown (mvT hZ (own_W hw 5 rfl)) (mvT hZ (own_W hw 6 rfl)) (mvT hZ (own_W hw 3 rfl)) (mvT hZ (own_W hw 7 rfl)) (by decide) (backOf (W := 0) (own_rm2 l Z a0 hw [] pruns5_1 (0 : Int32) h0 n0 Z0) hZ (own_W hw 7 rfl) (own_W hw 3 rfl) (by decide) (by decide)) (g := (mkF m 2 #[.val (.int (5 : Int32)), .val (.int pruns5_1), .unset, .unset, .unset, .unset, .unset, .unset] [(.int (0 : Int32)), (.int pruns5_1)])) rfl (by rw [hml]; rfl) (argsL := [(.int pruns5_1), (.int (0 : Int32))]) (rest := []) (lenOf own_pd0 rfl) rfl (by show 2 * 0 + _ ≤ _; exact Nat.le_of_eq rfl) (hb hby own_d1_2) (fun _ _ => ⟨rfl, e0, (by decide : 0 + 0 ≤ _), (by decide : 0 + 0 ≤ _)⟩)
  dsimp only [Pt.U, Pt.locs, Pt.cells, Pt.slots] at Xkruns5_1 lkruns5_1 ykruns5_1 zkruns5_1 stkruns5_1 hQkruns5_1
  replace lkruns5_1 := lkruns5_1.symm; replace ykruns5_1 := ykruns5_1.symm; replace zkruns5_1 := zkruns5_1.symm; subst lkruns5_1 ykruns5_1 zkruns5_1
  obtain ⟨rfl, Nkruns5_1q, ekruns5_1⟩ := hQkruns5_1
  have Nkruns5_1 := Fr.app N0 Nkruns5_1q
  obtain ⟨_, _, ⟨Tkruns5_2, Lkruns5_2, kkruns5_2, nkruns5_2⟩, -, Xkruns5_2, ⟨Lckruns5_2, hQkruns5_2, lkruns5_2, ykruns5_2, zkruns5_2⟩, stkruns5_2⟩ := Jvm.LawKit.callS Xkruns5_1 hx (y := (⟨"com/example/arborway/arborway/sim/WalkRunningCountPinLaw", "bit", "(II)Z"⟩ : MethodName)) hown (mvT hZ (own_W hw 5 rfl)) (mvT hZ (own_W hw 6 rfl)) (mvT hZ (own_W hw 3 rfl)) (mvT hZ (own_W hw 7 rfl)) (by decide) (backOf (W := 0) (own_rm2 l Z a0 hw [] pruns5_1 (1 : Int32) h0 n0 Z0) hZ (own_W hw 7 rfl) (own_W hw 3 rfl) (by decide) (by decide)) (g := (mkF m 8 #[.val (.int (5 : Int32)), .val (.int pruns5_1), .val (.int (own_vruns5_0 pruns5_1)), .unset, .unset, .unset, .unset, .unset] [(.int (1 : Int32)), (.int pruns5_1)])) rfl (by rw [hml]; rfl) (argsL := [(.int pruns5_1), (.int (1 : Int32))]) (rest := []) (lenOf own_pd0 rfl) rfl (by show 2 * 0 + _ ≤ _; exact Nat.le_of_eq rfl) (hb hby own_d1_8) (fun _ _ => ⟨rfl, ekruns5_1, (by decide : 0 + 0 ≤ _), (by decide : 0 + 0 ≤ _)⟩)
  dsimp only [Pt.U, Pt.locs, Pt.cells, Pt.slots] at Xkruns5_2 lkruns5_2 ykruns5_2 zkruns5_2 stkruns5_2 hQkruns5_2
  replace lkruns5_2 := lkruns5_2.symm; replace ykruns5_2 := ykruns5_2.symm; replace zkruns5_2 := zkruns5_2.symm; subst lkruns5_2 ykruns5_2 zkruns5_2
  obtain ⟨rfl, Nkruns5_2q, ekruns5_2⟩ := hQkruns5_2
  have Nkruns5_2 := Fr.app Nkruns5_1 Nkruns5_2q
  obtain ⟨_, _, ⟨Tkruns5_3, Lkruns5_3, kkruns5_3, nkruns5_3⟩, -, Xkruns5_3, ⟨Lckruns5_3, hQkruns5_3, lkruns5_3, ykruns5_3, zkruns5_3⟩, stkruns5_3⟩ := Jvm.LawKit.callS Xkruns5_2 hx (y := (⟨"com/example/arborway/arborway/sim/WalkRunningCountPinLaw", "bit", "(II)Z"⟩ : MethodName)) hown (mvT hZ (own_W hw 5 rfl)) (mvT hZ (own_W hw 6 rfl)) (mvT hZ (own_W hw 3 rfl)) (mvT hZ (own_W hw 7 rfl)) (by decide) (backOf (W := 0) (own_rm2 l Z a0 hw [] pruns5_1 (2 : Int32) h0 n0 Z0) hZ (own_W hw 7 rfl) (own_W hw 3 rfl) (by decide) (by decide)) (g := (mkF m 14 #[.val (.int (5 : Int32)), .val (.int pruns5_1), .val (.int (own_vruns5_0 pruns5_1)), .val (.int (own_vruns5_1 pruns5_1)), .unset, .unset, .unset, .unset] [(.int (2 : Int32)), (.int pruns5_1)])) rfl (by rw [hml]; rfl) (argsL := [(.int pruns5_1), (.int (2 : Int32))]) (rest := []) (lenOf own_pd0 rfl) rfl (by show 2 * 0 + _ ≤ _; exact Nat.le_of_eq rfl) (hb hby own_d1_14) (fun _ _ => ⟨rfl, ekruns5_2, (by decide : 0 + 0 ≤ _), (by decide : 0 + 0 ≤ _)⟩)
  dsimp only [Pt.U, Pt.locs, Pt.cells, Pt.slots] at Xkruns5_3 lkruns5_3 ykruns5_3 zkruns5_3 stkruns5_3 hQkruns5_3
  replace lkruns5_3 := lkruns5_3.symm; replace ykruns5_3 := ykruns5_3.symm; replace zkruns5_3 := zkruns5_3.symm; subst lkruns5_3 ykruns5_3 zkruns5_3
  obtain ⟨rfl, Nkruns5_3q, ekruns5_3⟩ := hQkruns5_3
  have Nkruns5_3 := Fr.app Nkruns5_2 Nkruns5_3q
  obtain ⟨_, _, ⟨Tkruns5_4, Lkruns5_4, kkruns5_4, nkruns5_4⟩, -, Xkruns5_4, ⟨Lckruns5_4, hQkruns5_4, lkruns5_4, ykruns5_4, zkruns5_4⟩, stkruns5_4⟩ := Jvm.LawKit.callS Xkruns5_3 hx (y := (⟨"com/example/arborway/arborway/sim/WalkRunningCountPinLaw", "bit", "(II)Z"⟩ : MethodName)) hown (mvT hZ (own_W hw 5 rfl)) (mvT hZ (own_W hw 6 rfl)) (mvT hZ (own_W hw 3 rfl)) (mvT hZ (own_W hw 7 rfl)) (by decide) (backOf (W := 0) (own_rm2 l Z a0 hw [] pruns5_1 (3 : Int32) h0 n0 Z0) hZ (own_W hw 7 rfl) (own_W hw 3 rfl) (by decide) (by decide)) (g := (mkF m 21 #[.val (.int (5 : Int32)), .val (.int pruns5_1), .val (.int (own_vruns5_0 pruns5_1)), .val (.int (own_vruns5_1 pruns5_1)), .val (.int (own_vruns5_2 pruns5_1)), .unset, .unset, .unset] [(.int (3 : Int32)), (.int pruns5_1)])) rfl (by rw [hml]; rfl) (argsL := [(.int pruns5_1), (.int (3 : Int32))]) (rest := []) (lenOf own_pd0 rfl) rfl (by show 2 * 0 + _ ≤ _; exact Nat.le_of_eq rfl) (hb hby own_d1_21) (fun _ _ => ⟨rfl, ekruns5_3, (by decide : 0 + 0 ≤ _), (by decide : 0 + 0 ≤ _)⟩)
  dsimp only [Pt.U, Pt.locs, Pt.cells, Pt.slots] at Xkruns5_4 lkruns5_4 ykruns5_4 zkruns5_4 stkruns5_4 hQkruns5_4
  replace lkruns5_4 := lkruns5_4.symm; replace ykruns5_4 := ykruns5_4.symm; replace zkruns5_4 := zkruns5_4.symm; subst lkruns5_4 ykruns5_4 zkruns5_4
  obtain ⟨rfl, Nkruns5_4q, ekruns5_4⟩ := hQkruns5_4
  have Nkruns5_4 := Fr.app Nkruns5_3 Nkruns5_4q
  obtain ⟨_, _, ⟨Tkruns5_5, Lkruns5_5, kkruns5_5, nkruns5_5⟩, -, Xkruns5_5, ⟨Lckruns5_5, hQkruns5_5, lkruns5_5, ykruns5_5, zkruns5_5⟩, stkruns5_5⟩ := Jvm.LawKit.callS Xkruns5_4 hx (y := (⟨"com/example/arborway/arborway/sim/WalkRunningCountPinLaw", "bit", "(II)Z"⟩ : MethodName)) hown (mvT hZ (own_W hw 5 rfl)) (mvT hZ (own_W hw 6 rfl)) (mvT hZ (own_W hw 3 rfl)) (mvT hZ (own_W hw 7 rfl)) (by decide) (backOf (W := 0) (own_rm2 l Z a0 hw [] pruns5_1 (4 : Int32) h0 n0 Z0) hZ (own_W hw 7 rfl) (own_W hw 3 rfl) (by decide) (by decide)) (g := (mkF m 28 #[.val (.int (5 : Int32)), .val (.int pruns5_1), .val (.int (own_vruns5_0 pruns5_1)), .val (.int (own_vruns5_1 pruns5_1)), .val (.int (own_vruns5_2 pruns5_1)), .val (.int (own_vruns5_3 pruns5_1)), .unset, .unset] [(.int (4 : Int32)), (.int pruns5_1)])) rfl (by rw [hml]; rfl) (argsL := [(.int pruns5_1), (.int (4 : Int32))]) (rest := []) (lenOf own_pd0 rfl) rfl (by show 2 * 0 + _ ≤ _; exact Nat.le_of_eq rfl) (hb hby own_d1_28) (fun _ _ => ⟨rfl, ekruns5_4, (by decide : 0 + 0 ≤ _), (by decide : 0 + 0 ≤ _)⟩)
  dsimp only [Pt.U, Pt.locs, Pt.cells, Pt.slots] at Xkruns5_5 lkruns5_5 ykruns5_5 zkruns5_5 stkruns5_5 hQkruns5_5
  replace lkruns5_5 := lkruns5_5.symm; replace ykruns5_5 := ykruns5_5.symm; replace zkruns5_5 := zkruns5_5.symm; subst lkruns5_5 ykruns5_5 zkruns5_5
  obtain ⟨rfl, Nkruns5_5q, ekruns5_5⟩ := hQkruns5_5
  have Nkruns5_5 := Fr.app Nkruns5_4 Nkruns5_5q
  obtain ⟨_, _, ⟨Tkruns5_6, Lkruns5_6, kkruns5_6, nkruns5_6⟩, -, Xkruns5_6, ⟨Lckruns5_6, hQkruns5_6, lkruns5_6, ykruns5_6, zkruns5_6⟩, stkruns5_6⟩ := Jvm.LawKit.callS Xkruns5_5 hx (y := (⟨"com/example/arborway/arborway/sim/WalkRunningCountPinLaw", "bit", "(II)Z"⟩ : MethodName)) hown (mvT hZ (own_W hw 5 rfl)) (mvT hZ (own_W hw 6 rfl)) (mvT hZ (own_W hw 3 rfl)) (mvT hZ (own_W hw 7 rfl)) (by decide) (backOf (W := 0) (own_rm2 l Z a0 hw [] pruns5_1 (5 : Int32) h0 n0 Z0) hZ (own_W hw 7 rfl) (own_W hw 3 rfl) (by decide) (by decide)) (g := (mkF m 35 #[.val (.int (5 : Int32)), .val (.int pruns5_1), .val (.int (own_vruns5_0 pruns5_1)), .val (.int (own_vruns5_1 pruns5_1)), .val (.int (own_vruns5_2 pruns5_1)), .val (.int (own_vruns5_3 pruns5_1)), .val (.int (own_vruns5_4 pruns5_1)), .unset] [(.int (5 : Int32)), (.int pruns5_1)])) rfl (by rw [hml]; rfl) (argsL := [(.int pruns5_1), (.int (5 : Int32))]) (rest := []) (lenOf own_pd0 rfl) rfl (by show 2 * 0 + _ ≤ _; exact Nat.le_of_eq rfl) (hb hby own_d1_35) (fun _ _ => ⟨rfl, ekruns5_5, (by decide : 0 + 0 ≤ _), (by decide : 0 + 0 ≤ _)⟩)
  dsimp only [Pt.U, Pt.locs, Pt.cells, Pt.slots] at Xkruns5_6 lkruns5_6 ykruns5_6 zkruns5_6 stkruns5_6 hQkruns5_6
  replace lkruns5_6 := lkruns5_6.symm; replace ykruns5_6 := ykruns5_6.symm; replace zkruns5_6 := zkruns5_6.symm; subst lkruns5_6 ykruns5_6 zkruns5_6
  obtain ⟨rfl, Nkruns5_6q, ekruns5_6⟩ := hQkruns5_6
  have Nkruns5_6 := Fr.app Nkruns5_5 Nkruns5_6q
  obtain ⟨Tnruns5_7, hnruns5_7, knruns5_7, Xnruns5_7, enruns5_7, Enruns5_7, Anruns5_7, stnruns5_7⟩ := newP Xkruns5_6 hx hZ (own_W hw 8 rfl) ekruns5_6 (g := (mkF m 133 #[.val (.int (5 : Int32)), .val (.int pruns5_1), .val (.int (own_vruns5_0 pruns5_1)), .val (.int (own_vruns5_1 pruns5_1)), .val (.int (own_vruns5_2 pruns5_1)), .val (.int (own_vruns5_3 pruns5_1)), .val (.int (own_vruns5_4 pruns5_1)), .val (.int (own_vruns5_5 pruns5_1))] [(.int (5 : Int32))])) rfl (hb hby own_d1_133) rfl (by decide) (cap := 5) (by decide) (by decide) (by decide) (by decide)
  obtain ⟨bnruns5_7, gnruns5_7⟩ : ∃ z, z = h0.size := ⟨_, rfl⟩
  rw [← gnruns5_7] at Anruns5_7 stnruns5_7
  have g_bnruns5_7 : n0 ≤ bnruns5_7 := Nat.le_trans Z0 (Nat.le_of_eq gnruns5_7.symm)
  have sz_bnruns5_7 : h0.size ≤ bnruns5_7 := Nat.le_trans Zr (Nat.le_of_eq gnruns5_7.symm)
  have szruns5_8 : h0.size ≤ hnruns5_7.size := Nat.le_trans Zr Enruns5_7.1
  have V_bnruns5_7 : Arv Z hnruns5_7 bnruns5_7 knruns5_7 .boolean (5 : Int32) [(.int (0 : Int32)), (.int (0 : Int32)), (.int (0 : Int32)), (.int (0 : Int32)), (.int (0 : Int32))] (.int (0 : Int32)) := (Arv.new Anruns5_7 (by decide)).pad (pad_rep [] (.int (0 : Int32)) 5)
  have Ooruns5_9 := V_bnruns5_7
  obtain ⟨cloruns5_9, Aroruns5_9, qoruns5_9, Soruns5_9, Noruns5_9, Horuns5_9, Goruns5_9⟩ := Ooruns5_9
  have hinoruns5_9 : ¬ ((0 : Int32) < 0 ∨ cloruns5_9.slots.size ≤ ((0 : Int32)).toNatClampNeg) := inb_of Soruns5_9 ⟨by decide, by decide⟩
  obtain ⟨Toruns5_9, horuns5_9, Xoruns5_9, eoruns5_9, Woruns5_9, storuns5_9⟩ := stZ Xnruns5_7 hx hZ enruns5_7 Aroruns5_9 (j := (0 : Int32)) hinoruns5_9 (g := (mkF m 138 #[.val (.int (5 : Int32)), .val (.int pruns5_1), .val (.int (own_vruns5_0 pruns5_1)), .val (.int (own_vruns5_1 pruns5_1)), .val (.int (own_vruns5_2 pruns5_1)), .val (.int (own_vruns5_3 pruns5_1)), .val (.int (own_vruns5_4 pruns5_1)), .val (.int (own_vruns5_5 pruns5_1))] [(.int (own_vruns5_0 pruns5_1)), (.int (0 : Int32)), (.ref bnruns5_7), (.ref bnruns5_7)])) rfl rfl (hb hby own_d1_138)
  have Vworuns5_9 : Arv Z horuns5_9 bnruns5_7 knruns5_7 .boolean (5 : Int32) [(.int (nar .boolean (own_vruns5_0 pruns5_1))), (.int (0 : Int32)), (.int (0 : Int32)), (.int (0 : Int32)), (.int (0 : Int32))] (.int (0 : Int32)) := Arv.set Aroruns5_9 qoruns5_9 Soruns5_9 Noruns5_9 Horuns5_9 Goruns5_9 (fits_nar_bool _) Woruns5_9 0 rfl (Nat.le_of_ble_eq_true rfl)
  have szruns5_10 : h0.size ≤ horuns5_9.size := Nat.le_trans szruns5_8 (Nat.le_of_eq Woruns5_9.size.symm)
  have Nforuns5_9 := Fr.snoc Xoruns5_9 Nkruns5_6 g_bnruns5_7
  have Ooruns5_11 := Vworuns5_9
  obtain ⟨cloruns5_11, Aroruns5_11, qoruns5_11, Soruns5_11, Noruns5_11, Horuns5_11, Goruns5_11⟩ := Ooruns5_11
  have hinoruns5_11 : ¬ ((1 : Int32) < 0 ∨ cloruns5_11.slots.size ≤ ((1 : Int32)).toNatClampNeg) := inb_of Soruns5_11 ⟨by decide, by decide⟩
  obtain ⟨Toruns5_11, horuns5_11, Xoruns5_11, eoruns5_11, Woruns5_11, storuns5_11⟩ := stZ Xoruns5_9 hx hZ eoruns5_9 Aroruns5_11 (j := (1 : Int32)) hinoruns5_11 (g := (mkF m 142 #[.val (.int (5 : Int32)), .val (.int pruns5_1), .val (.int (own_vruns5_0 pruns5_1)), .val (.int (own_vruns5_1 pruns5_1)), .val (.int (own_vruns5_2 pruns5_1)), .val (.int (own_vruns5_3 pruns5_1)), .val (.int (own_vruns5_4 pruns5_1)), .val (.int (own_vruns5_5 pruns5_1))] [(.int (own_vruns5_1 pruns5_1)), (.int (1 : Int32)), (.ref bnruns5_7), (.ref bnruns5_7)])) rfl rfl (hb hby own_d1_142)
  have Vworuns5_11 : Arv Z horuns5_11 bnruns5_7 knruns5_7 .boolean (5 : Int32) [(.int (nar .boolean (own_vruns5_0 pruns5_1))), (.int (nar .boolean (own_vruns5_1 pruns5_1))), (.int (0 : Int32)), (.int (0 : Int32)), (.int (0 : Int32))] (.int (0 : Int32)) := Arv.set Aroruns5_11 qoruns5_11 Soruns5_11 Noruns5_11 Horuns5_11 Goruns5_11 (fits_nar_bool _) Woruns5_11 1 rfl (Nat.le_of_ble_eq_true rfl)
  have szruns5_12 : h0.size ≤ horuns5_11.size := Nat.le_trans szruns5_10 (Nat.le_of_eq Woruns5_11.size.symm)
  have Nforuns5_11 := Fr.snoc Xoruns5_11 Nforuns5_9 g_bnruns5_7
  have Ooruns5_13 := Vworuns5_11
  obtain ⟨cloruns5_13, Aroruns5_13, qoruns5_13, Soruns5_13, Noruns5_13, Horuns5_13, Goruns5_13⟩ := Ooruns5_13
  have hinoruns5_13 : ¬ ((2 : Int32) < 0 ∨ cloruns5_13.slots.size ≤ ((2 : Int32)).toNatClampNeg) := inb_of Soruns5_13 ⟨by decide, by decide⟩
  obtain ⟨Toruns5_13, horuns5_13, Xoruns5_13, eoruns5_13, Woruns5_13, storuns5_13⟩ := stZ Xoruns5_11 hx hZ eoruns5_11 Aroruns5_13 (j := (2 : Int32)) hinoruns5_13 (g := (mkF m 147 #[.val (.int (5 : Int32)), .val (.int pruns5_1), .val (.int (own_vruns5_0 pruns5_1)), .val (.int (own_vruns5_1 pruns5_1)), .val (.int (own_vruns5_2 pruns5_1)), .val (.int (own_vruns5_3 pruns5_1)), .val (.int (own_vruns5_4 pruns5_1)), .val (.int (own_vruns5_5 pruns5_1))] [(.int (own_vruns5_2 pruns5_1)), (.int (2 : Int32)), (.ref bnruns5_7), (.ref bnruns5_7)])) rfl rfl (hb hby own_d1_147)
  have Vworuns5_13 : Arv Z horuns5_13 bnruns5_7 knruns5_7 .boolean (5 : Int32) [(.int (nar .boolean (own_vruns5_0 pruns5_1))), (.int (nar .boolean (own_vruns5_1 pruns5_1))), (.int (nar .boolean (own_vruns5_2 pruns5_1))), (.int (0 : Int32)), (.int (0 : Int32))] (.int (0 : Int32)) := Arv.set Aroruns5_13 qoruns5_13 Soruns5_13 Noruns5_13 Horuns5_13 Goruns5_13 (fits_nar_bool _) Woruns5_13 2 rfl (Nat.le_of_ble_eq_true rfl)
  have szruns5_14 : h0.size ≤ horuns5_13.size := Nat.le_trans szruns5_12 (Nat.le_of_eq Woruns5_13.size.symm)
  have Nforuns5_13 := Fr.snoc Xoruns5_13 Nforuns5_11 g_bnruns5_7
  have Ooruns5_15 := Vworuns5_13
  obtain ⟨cloruns5_15, Aroruns5_15, qoruns5_15, Soruns5_15, Noruns5_15, Horuns5_15, Goruns5_15⟩ := Ooruns5_15
  have hinoruns5_15 : ¬ ((3 : Int32) < 0 ∨ cloruns5_15.slots.size ≤ ((3 : Int32)).toNatClampNeg) := inb_of Soruns5_15 ⟨by decide, by decide⟩
  obtain ⟨Toruns5_15, horuns5_15, Xoruns5_15, eoruns5_15, Woruns5_15, storuns5_15⟩ := stZ Xoruns5_13 hx hZ eoruns5_13 Aroruns5_15 (j := (3 : Int32)) hinoruns5_15 (g := (mkF m 152 #[.val (.int (5 : Int32)), .val (.int pruns5_1), .val (.int (own_vruns5_0 pruns5_1)), .val (.int (own_vruns5_1 pruns5_1)), .val (.int (own_vruns5_2 pruns5_1)), .val (.int (own_vruns5_3 pruns5_1)), .val (.int (own_vruns5_4 pruns5_1)), .val (.int (own_vruns5_5 pruns5_1))] [(.int (own_vruns5_3 pruns5_1)), (.int (3 : Int32)), (.ref bnruns5_7), (.ref bnruns5_7)])) rfl rfl (hb hby own_d1_152)
  have Vworuns5_15 : Arv Z horuns5_15 bnruns5_7 knruns5_7 .boolean (5 : Int32) [(.int (nar .boolean (own_vruns5_0 pruns5_1))), (.int (nar .boolean (own_vruns5_1 pruns5_1))), (.int (nar .boolean (own_vruns5_2 pruns5_1))), (.int (nar .boolean (own_vruns5_3 pruns5_1))), (.int (0 : Int32))] (.int (0 : Int32)) := Arv.set Aroruns5_15 qoruns5_15 Soruns5_15 Noruns5_15 Horuns5_15 Goruns5_15 (fits_nar_bool _) Woruns5_15 3 rfl (Nat.le_of_ble_eq_true rfl)
  have szruns5_16 : h0.size ≤ horuns5_15.size := Nat.le_trans szruns5_14 (Nat.le_of_eq Woruns5_15.size.symm)
  have Nforuns5_15 := Fr.snoc Xoruns5_15 Nforuns5_13 g_bnruns5_7
  have Ooruns5_17 := Vworuns5_15
  obtain ⟨cloruns5_17, Aroruns5_17, qoruns5_17, Soruns5_17, Noruns5_17, Horuns5_17, Goruns5_17⟩ := Ooruns5_17
  have hinoruns5_17 : ¬ ((4 : Int32) < 0 ∨ cloruns5_17.slots.size ≤ ((4 : Int32)).toNatClampNeg) := inb_of Soruns5_17 ⟨by decide, by decide⟩
  obtain ⟨Toruns5_17, horuns5_17, Xoruns5_17, eoruns5_17, Woruns5_17, storuns5_17⟩ := stZ Xoruns5_15 hx hZ eoruns5_15 Aroruns5_17 (j := (4 : Int32)) hinoruns5_17 (g := (mkF m 157 #[.val (.int (5 : Int32)), .val (.int pruns5_1), .val (.int (own_vruns5_0 pruns5_1)), .val (.int (own_vruns5_1 pruns5_1)), .val (.int (own_vruns5_2 pruns5_1)), .val (.int (own_vruns5_3 pruns5_1)), .val (.int (own_vruns5_4 pruns5_1)), .val (.int (own_vruns5_5 pruns5_1))] [(.int (own_vruns5_4 pruns5_1)), (.int (4 : Int32)), (.ref bnruns5_7), (.ref bnruns5_7)])) rfl rfl (hb hby own_d1_157)
  have Vworuns5_17 : Arv Z horuns5_17 bnruns5_7 knruns5_7 .boolean (5 : Int32) [(.int (nar .boolean (own_vruns5_0 pruns5_1))), (.int (nar .boolean (own_vruns5_1 pruns5_1))), (.int (nar .boolean (own_vruns5_2 pruns5_1))), (.int (nar .boolean (own_vruns5_3 pruns5_1))), (.int (nar .boolean (own_vruns5_4 pruns5_1)))] (.int (0 : Int32)) := Arv.set Aroruns5_17 qoruns5_17 Soruns5_17 Noruns5_17 Horuns5_17 Goruns5_17 (fits_nar_bool _) Woruns5_17 4 rfl (Nat.le_of_ble_eq_true rfl)
  have szruns5_18 : h0.size ≤ horuns5_17.size := Nat.le_trans szruns5_16 (Nat.le_of_eq Woruns5_17.size.symm)
  have Nforuns5_17 := Fr.snoc Xoruns5_17 Nforuns5_15 g_bnruns5_7
  obtain ⟨fs, hr, hrun, hended, hW, hsame⟩ := Xoruns5_17.leave (v := some (.ref bnruns5_7)) (fun h => by rw [Bd.returns] at h; cases h)
  refine ⟨_, _, pre0 _ (?_), hrun, hended, _, _, rfl, ?_, ⟨_, rfl⟩, hW, hsame.mono (by decide) (by decide)⟩
  · show Steps p.tables e below (s₁.setTop (mkF m 0 #[.val (.int (5 : Int32)), .val (.int pruns5_1), .unset, .unset, .unset, .unset, .unset, .unset] [])) _
    refine XS.iloadN X0.here hx rfl (hb hby own_d1_0) rfl ?_
    refine XS.iconst X0.here hx rfl (hb hby own_d1_1) ?_
    refine stkruns5_1 _ ?_
    show Steps p.tables e below (Tkruns5_1.setTop (mkF m 5 #[.val (.int (5 : Int32)), .val (.int pruns5_1), .unset, .unset, .unset, .unset, .unset, .unset] [(.int (own_r2_1 pruns5_1 (0 : Int32)))])) _
    refine XS.istoreN Xkruns5_1.here hx rfl (hb hby own_d1_5) rfl (l' := #[.val (.int (5 : Int32)), .val (.int pruns5_1), .val (.int (own_vruns5_0 pruns5_1)), .unset, .unset, .unset, .unset, .unset]) rfl ?_
    refine XS.iloadN Xkruns5_1.here hx rfl (hb hby own_d1_6) rfl ?_
    refine XS.iconst Xkruns5_1.here hx rfl (hb hby own_d1_7) ?_
    refine stkruns5_2 _ ?_
    show Steps p.tables e below (Tkruns5_2.setTop (mkF m 11 #[.val (.int (5 : Int32)), .val (.int pruns5_1), .val (.int (own_vruns5_0 pruns5_1)), .unset, .unset, .unset, .unset, .unset] [(.int (own_r2_1 pruns5_1 (1 : Int32)))])) _
    refine XS.istoreN Xkruns5_2.here hx rfl (hb hby own_d1_11) rfl (l' := #[.val (.int (5 : Int32)), .val (.int pruns5_1), .val (.int (own_vruns5_0 pruns5_1)), .val (.int (own_vruns5_1 pruns5_1)), .unset, .unset, .unset, .unset]) rfl ?_
    refine XS.iloadN Xkruns5_2.here hx rfl (hb hby own_d1_12) rfl ?_
    refine XS.iconst Xkruns5_2.here hx rfl (hb hby own_d1_13) ?_
    refine stkruns5_3 _ ?_
    show Steps p.tables e below (Tkruns5_3.setTop (mkF m 17 #[.val (.int (5 : Int32)), .val (.int pruns5_1), .val (.int (own_vruns5_0 pruns5_1)), .val (.int (own_vruns5_1 pruns5_1)), .unset, .unset, .unset, .unset] [(.int (own_r2_1 pruns5_1 (2 : Int32)))])) _
    refine XS.istore Xkruns5_3.here hx rfl (hb hby own_d1_17) rfl (l' := #[.val (.int (5 : Int32)), .val (.int pruns5_1), .val (.int (own_vruns5_0 pruns5_1)), .val (.int (own_vruns5_1 pruns5_1)), .val (.int (own_vruns5_2 pruns5_1)), .unset, .unset, .unset]) rfl ?_
    refine XS.iloadN Xkruns5_3.here hx rfl (hb hby own_d1_19) rfl ?_
    refine XS.iconst Xkruns5_3.here hx rfl (hb hby own_d1_20) ?_
    refine stkruns5_4 _ ?_
    show Steps p.tables e below (Tkruns5_4.setTop (mkF m 24 #[.val (.int (5 : Int32)), .val (.int pruns5_1), .val (.int (own_vruns5_0 pruns5_1)), .val (.int (own_vruns5_1 pruns5_1)), .val (.int (own_vruns5_2 pruns5_1)), .unset, .unset, .unset] [(.int (own_r2_1 pruns5_1 (3 : Int32)))])) _
    refine XS.istore Xkruns5_4.here hx rfl (hb hby own_d1_24) rfl (l' := #[.val (.int (5 : Int32)), .val (.int pruns5_1), .val (.int (own_vruns5_0 pruns5_1)), .val (.int (own_vruns5_1 pruns5_1)), .val (.int (own_vruns5_2 pruns5_1)), .val (.int (own_vruns5_3 pruns5_1)), .unset, .unset]) rfl ?_
    refine XS.iloadN Xkruns5_4.here hx rfl (hb hby own_d1_26) rfl ?_
    refine XS.iconst Xkruns5_4.here hx rfl (hb hby own_d1_27) ?_
    refine stkruns5_5 _ ?_
    show Steps p.tables e below (Tkruns5_5.setTop (mkF m 31 #[.val (.int (5 : Int32)), .val (.int pruns5_1), .val (.int (own_vruns5_0 pruns5_1)), .val (.int (own_vruns5_1 pruns5_1)), .val (.int (own_vruns5_2 pruns5_1)), .val (.int (own_vruns5_3 pruns5_1)), .unset, .unset] [(.int (own_r2_1 pruns5_1 (4 : Int32)))])) _
    refine XS.istore Xkruns5_5.here hx rfl (hb hby own_d1_31) rfl (l' := #[.val (.int (5 : Int32)), .val (.int pruns5_1), .val (.int (own_vruns5_0 pruns5_1)), .val (.int (own_vruns5_1 pruns5_1)), .val (.int (own_vruns5_2 pruns5_1)), .val (.int (own_vruns5_3 pruns5_1)), .val (.int (own_vruns5_4 pruns5_1)), .unset]) rfl ?_
    refine XS.iloadN Xkruns5_5.here hx rfl (hb hby own_d1_33) rfl ?_
    refine XS.iconst Xkruns5_5.here hx rfl (hb hby own_d1_34) ?_
    refine stkruns5_6 _ ?_
    show Steps p.tables e below (Tkruns5_6.setTop (mkF m 38 #[.val (.int (5 : Int32)), .val (.int pruns5_1), .val (.int (own_vruns5_0 pruns5_1)), .val (.int (own_vruns5_1 pruns5_1)), .val (.int (own_vruns5_2 pruns5_1)), .val (.int (own_vruns5_3 pruns5_1)), .val (.int (own_vruns5_4 pruns5_1)), .unset] [(.int (own_r2_1 pruns5_1 (5 : Int32)))])) _
    refine XS.istore Xkruns5_6.here hx rfl (hb hby own_d1_38) rfl (l' := #[.val (.int (5 : Int32)), .val (.int pruns5_1), .val (.int (own_vruns5_0 pruns5_1)), .val (.int (own_vruns5_1 pruns5_1)), .val (.int (own_vruns5_2 pruns5_1)), .val (.int (own_vruns5_3 pruns5_1)), .val (.int (own_vruns5_4 pruns5_1)), .val (.int (own_vruns5_5 pruns5_1))]) rfl ?_
    refine XS.iloadN Xkruns5_6.here hx rfl (hb hby own_d1_40) rfl ?_
    refine XS.ifYes Xkruns5_6.here hx rfl (pc0 := 41) (pc' := 48) rfl (hb hby own_d1_41) rfl (XT.i0_ne_t (by decide : ¬ ((5 : Int32) = (0 : Int32)))) (by decide) (by decide) ?_
    refine XS.iloadN Xkruns5_6.here hx rfl (hb hby own_d1_48) rfl ?_
    refine XS.iconst Xkruns5_6.here hx rfl (hb hby own_d1_49) ?_
    refine XS.icmpYes Xkruns5_6.here hx rfl (pc0 := 50) (pc' := 61) rfl (hb hby own_d1_50) rfl (XT.ii_ne_t (by decide : ¬ ((5 : Int32) = (1 : Int32)))) (by decide) (by decide) ?_
    refine XS.iloadN Xkruns5_6.here hx rfl (hb hby own_d1_61) rfl ?_
    refine XS.iconst Xkruns5_6.here hx rfl (hb hby own_d1_62) ?_
    refine XS.icmpYes Xkruns5_6.here hx rfl (pc0 := 63) (pc' := 78) rfl (hb hby own_d1_63) rfl (XT.ii_ne_t (by decide : ¬ ((5 : Int32) = (2 : Int32)))) (by decide) (by decide) ?_
    refine XS.iloadN Xkruns5_6.here hx rfl (hb hby own_d1_78) rfl ?_
    refine XS.iconst Xkruns5_6.here hx rfl (hb hby own_d1_79) ?_
    refine XS.icmpYes Xkruns5_6.here hx rfl (pc0 := 80) (pc' := 100) rfl (hb hby own_d1_80) rfl (XT.ii_ne_t (by decide : ¬ ((5 : Int32) = (3 : Int32)))) (by decide) (by decide) ?_
    refine XS.iloadN Xkruns5_6.here hx rfl (hb hby own_d1_100) rfl ?_
    refine XS.iconst Xkruns5_6.here hx rfl (hb hby own_d1_101) ?_
    refine XS.icmpYes Xkruns5_6.here hx rfl (pc0 := 102) (pc' := 127) rfl (hb hby own_d1_102) rfl (XT.ii_ne_t (by decide : ¬ ((5 : Int32) = (4 : Int32)))) (by decide) (by decide) ?_
    refine XS.iloadN Xkruns5_6.here hx rfl (hb hby own_d1_127) rfl ?_
    refine XS.iconst Xkruns5_6.here hx rfl (hb hby own_d1_128) ?_
    refine XS.icmpNo Xkruns5_6.here hx rfl (hb hby own_d1_129) rfl (XT.ii_ne_f (by decide : (5 : Int32) = (5 : Int32))) ?_
    refine XS.iconst Xkruns5_6.here hx rfl (hb hby own_d1_132) ?_
    refine stnruns5_7 _ ?_
    show Steps p.tables e below (Tnruns5_7.setTop (mkF m 135 #[.val (.int (5 : Int32)), .val (.int pruns5_1), .val (.int (own_vruns5_0 pruns5_1)), .val (.int (own_vruns5_1 pruns5_1)), .val (.int (own_vruns5_2 pruns5_1)), .val (.int (own_vruns5_3 pruns5_1)), .val (.int (own_vruns5_4 pruns5_1)), .val (.int (own_vruns5_5 pruns5_1))] [(.ref bnruns5_7)])) _
    refine XS.dup Xnruns5_7.here hx rfl (hb hby own_d1_135) rfl rfl ?_
    refine XS.iconst Xnruns5_7.here hx rfl (hb hby own_d1_136) ?_
    refine XS.iloadN Xnruns5_7.here hx rfl (hb hby own_d1_137) rfl ?_
    refine storuns5_9 _ ?_
    show Steps p.tables e below (Toruns5_9.setTop (mkF m 139 #[.val (.int (5 : Int32)), .val (.int pruns5_1), .val (.int (own_vruns5_0 pruns5_1)), .val (.int (own_vruns5_1 pruns5_1)), .val (.int (own_vruns5_2 pruns5_1)), .val (.int (own_vruns5_3 pruns5_1)), .val (.int (own_vruns5_4 pruns5_1)), .val (.int (own_vruns5_5 pruns5_1))] [(.ref bnruns5_7)])) _
    refine XS.dup Xoruns5_9.here hx rfl (hb hby own_d1_139) rfl rfl ?_
    refine XS.iconst Xoruns5_9.here hx rfl (hb hby own_d1_140) ?_
    refine XS.iloadN Xoruns5_9.here hx rfl (hb hby own_d1_141) rfl ?_
    refine storuns5_11 _ ?_
    show Steps p.tables e below (Toruns5_11.setTop (mkF m 143 #[.val (.int (5 : Int32)), .val (.int pruns5_1), .val (.int (own_vruns5_0 pruns5_1)), .val (.int (own_vruns5_1 pruns5_1)), .val (.int (own_vruns5_2 pruns5_1)), .val (.int (own_vruns5_3 pruns5_1)), .val (.int (own_vruns5_4 pruns5_1)), .val (.int (own_vruns5_5 pruns5_1))] [(.ref bnruns5_7)])) _
    refine XS.dup Xoruns5_11.here hx rfl (hb hby own_d1_143) rfl rfl ?_
    refine XS.iconst Xoruns5_11.here hx rfl (hb hby own_d1_144) ?_
    refine XS.iload Xoruns5_11.here hx rfl (hb hby own_d1_145) rfl ?_
    refine storuns5_13 _ ?_
    show Steps p.tables e below (Toruns5_13.setTop (mkF m 148 #[.val (.int (5 : Int32)), .val (.int pruns5_1), .val (.int (own_vruns5_0 pruns5_1)), .val (.int (own_vruns5_1 pruns5_1)), .val (.int (own_vruns5_2 pruns5_1)), .val (.int (own_vruns5_3 pruns5_1)), .val (.int (own_vruns5_4 pruns5_1)), .val (.int (own_vruns5_5 pruns5_1))] [(.ref bnruns5_7)])) _
    refine XS.dup Xoruns5_13.here hx rfl (hb hby own_d1_148) rfl rfl ?_
    refine XS.iconst Xoruns5_13.here hx rfl (hb hby own_d1_149) ?_
    refine XS.iload Xoruns5_13.here hx rfl (hb hby own_d1_150) rfl ?_
    refine storuns5_15 _ ?_
    show Steps p.tables e below (Toruns5_15.setTop (mkF m 153 #[.val (.int (5 : Int32)), .val (.int pruns5_1), .val (.int (own_vruns5_0 pruns5_1)), .val (.int (own_vruns5_1 pruns5_1)), .val (.int (own_vruns5_2 pruns5_1)), .val (.int (own_vruns5_3 pruns5_1)), .val (.int (own_vruns5_4 pruns5_1)), .val (.int (own_vruns5_5 pruns5_1))] [(.ref bnruns5_7)])) _
    refine XS.dup Xoruns5_15.here hx rfl (hb hby own_d1_153) rfl rfl ?_
    refine XS.iconst Xoruns5_15.here hx rfl (hb hby own_d1_154) ?_
    refine XS.iload Xoruns5_15.here hx rfl (hb hby own_d1_155) rfl ?_
    refine storuns5_17 _ ?_
    show Steps p.tables e below (Toruns5_17.setTop (mkF m 158 #[.val (.int (5 : Int32)), .val (.int pruns5_1), .val (.int (own_vruns5_0 pruns5_1)), .val (.int (own_vruns5_1 pruns5_1)), .val (.int (own_vruns5_2 pruns5_1)), .val (.int (own_vruns5_3 pruns5_1)), .val (.int (own_vruns5_4 pruns5_1)), .val (.int (own_vruns5_5 pruns5_1))] [(.ref bnruns5_7)])) _
    jvm_step Xoruns5_17.here [Xoruns5_17.here.top, hx, (hb hby own_d1_158), Xoruns5_17.method', Bd.returns, Value.isRef, FieldType.isReference]
    first | (intro acts; rw [hr _ acts rfl rfl rfl]) | rw [hr _ _ rfl rfl rfl]
    exact Steps.refl _
  · show own_Qruns5 Z pruns5_1 h0 n0 _ Toruns5_17.heap _
    rw [eoruns5_17]
    exact ⟨bnruns5_7, knruns5_7, rfl, Nforuns5_17, (((((((Keep.refl h0 []).ext Enruns5_7).wr Woruns5_9 (Or.inr sz_bnruns5_7)).wr Woruns5_11 (Or.inr sz_bnruns5_7)).wr Woruns5_13 (Or.inr sz_bnruns5_7)).wr Woruns5_15 (Or.inr sz_bnruns5_7)).wr Woruns5_17 (Or.inr sz_bnruns5_7)), sz_bnruns5_7, Vworuns5_17⟩
theorem own_d1_159 : decode method_3_code 159 = .ok (.bipush 6, 2) := by decide +kernel
theorem own_d1_161 : decode method_3_code 161 = .ok (.newarray .boolean, 2) := by decide +kernel
theorem own_d1_163 : decode method_3_code 163 = .ok (.dup, 1) := by decide +kernel
theorem own_d1_164 : decode method_3_code 164 = .ok (.iconst 0, 1) := by decide +kernel
theorem own_d1_165 : decode method_3_code 165 = .ok (.iload_n 2, 1) := by decide +kernel
theorem own_d1_166 : decode method_3_code 166 = .ok (.bastore, 1) := by decide +kernel
theorem own_d1_167 : decode method_3_code 167 = .ok (.dup, 1) := by decide +kernel
theorem own_d1_168 : decode method_3_code 168 = .ok (.iconst 1, 1) := by decide +kernel
theorem own_d1_169 : decode method_3_code 169 = .ok (.iload_n 3, 1) := by decide +kernel
theorem own_d1_170 : decode method_3_code 170 = .ok (.bastore, 1) := by decide +kernel
theorem own_d1_171 : decode method_3_code 171 = .ok (.dup, 1) := by decide +kernel
theorem own_d1_172 : decode method_3_code 172 = .ok (.iconst 2, 1) := by decide +kernel
theorem own_d1_173 : decode method_3_code 173 = .ok (.iload 4, 2) := by decide +kernel
theorem own_d1_175 : decode method_3_code 175 = .ok (.bastore, 1) := by decide +kernel
theorem own_d1_176 : decode method_3_code 176 = .ok (.dup, 1) := by decide +kernel
theorem own_d1_177 : decode method_3_code 177 = .ok (.iconst 3, 1) := by decide +kernel
theorem own_d1_178 : decode method_3_code 178 = .ok (.iload 5, 2) := by decide +kernel
theorem own_d1_180 : decode method_3_code 180 = .ok (.bastore, 1) := by decide +kernel
theorem own_d1_181 : decode method_3_code 181 = .ok (.dup, 1) := by decide +kernel
theorem own_d1_182 : decode method_3_code 182 = .ok (.iconst 4, 1) := by decide +kernel
theorem own_d1_183 : decode method_3_code 183 = .ok (.iload 6, 2) := by decide +kernel
theorem own_d1_185 : decode method_3_code 185 = .ok (.bastore, 1) := by decide +kernel
theorem own_d1_186 : decode method_3_code 186 = .ok (.dup, 1) := by decide +kernel
theorem own_d1_187 : decode method_3_code 187 = .ok (.iconst 5, 1) := by decide +kernel
theorem own_d1_188 : decode method_3_code 188 = .ok (.iload 7, 2) := by decide +kernel
theorem own_d1_190 : decode method_3_code 190 = .ok (.bastore, 1) := by decide +kernel
theorem own_d1_191 : decode method_3_code 191 = .ok (.areturn, 1) := by decide +kernel
def own_vruns6_0 (pruns6_1 : Int32) : Int32 := (own_r2_1 pruns6_1 (0 : Int32))
def own_vruns6_1 (pruns6_1 : Int32) : Int32 := (own_r2_1 pruns6_1 (1 : Int32))
def own_vruns6_2 (pruns6_1 : Int32) : Int32 := (own_r2_1 pruns6_1 (2 : Int32))
def own_vruns6_3 (pruns6_1 : Int32) : Int32 := (own_r2_1 pruns6_1 (3 : Int32))
def own_vruns6_4 (pruns6_1 : Int32) : Int32 := (own_r2_1 pruns6_1 (4 : Int32))
def own_vruns6_5 (pruns6_1 : Int32) : Int32 := (own_r2_1 pruns6_1 (5 : Int32))
theorem own_efruns6 (m : MethodId) (pruns6_1 : Int32) : entryFrame m #[(.int (6 : Int32)), (.int pruns6_1)] 8 = mkF m 0 #[.val (.int (6 : Int32)), .val (.int pruns6_1), .unset, .unset, .unset, .unset, .unset, .unset] [] := by first | (simp [entryFrame, mkF, argsToLocals, Value.category]; done) | rfl
def own_Qruns6 (Z : State) (pruns6_1 : Int32) (h0 : Heap) (n0 : Nat) (v : Option Value) (h : Heap) (L : List Loc) : Prop := ∃ (bnruns6_7 : Addr) (knruns6_7 : ClassId), v = some (.ref bnruns6_7) ∧ Fr n0 L ∧ Keep h0 h [] ∧ h0.size ≤ bnruns6_7 ∧ Arv Z h bnruns6_7 knruns6_7 .boolean (6 : Int32) [(.int (nar .boolean (own_vruns6_0 pruns6_1))), (.int (nar .boolean (own_vruns6_1 pruns6_1))), (.int (nar .boolean (own_vruns6_2 pruns6_1))), (.int (nar .boolean (own_vruns6_3 pruns6_1))), (.int (nar .boolean (own_vruns6_4 pruns6_1))), (.int (nar .boolean (own_vruns6_5 pruns6_1)))] (.int (0 : Int32))
set_option maxRecDepth 65536 in
set_option maxHeartbeats 40000000 in
theorem own_rmruns6 (l : Launch) (Z : State) (a0 : Array Value) (hw : ∀ d ∈ tables_1, d.before a0 Z = true) (ws : List Jvm.Cond) (pruns6_1 : Int32) (h0 : Heap) (n0 : Nat) (Z0 : n0 ≤ h0.size) :
    MetFree l (⟨"com/example/arborway/arborway/sim/WalkRunningCountPinLaw", "runs", "(II)[Z"⟩ : MethodName) (head1 (Jvm.Cond.code (⟨"com/example/arborway/arborway/sim/WalkRunningCountPinLaw", "runs", "(II)[Z"⟩ : MethodName) method_3_code 8 (some (.array .boolean)) :: ws) ({ frames := 1, cells := 1, slots := 6, locals := 13 } : Room)) (fun a U => a = #[(.int (6 : Int32)), (.int pruns6_1)] ∧ Z.Warmed39 U.vm ∧ U.heap = h0) (fun _ _ _ _ _ => True) (fun _ U o U' => ∃ v L, o = .returned v ∧ own_Qruns6 Z pruns6_1 h0 n0 v U'.heap L ∧ FrameEnd U o U' L ({ frames := 1, cells := 1, slots := 6, locals := 13 } : Room).cells ({ frames := 1, cells := 1, slots := 6, locals := 13 } : Room).slots) := by
  refine MetFree.of_bodySF (plainFor_of_name own_pn0) hisR ?_
  intro p e s m args below meth c s₁ Bd hml0 hP hK
  obtain ⟨rfl, hZ, hh⟩ := hP
  have hx := Bd.exec
  have hby := Bd.bytes
  have hml : c.maxLocals = 8 := hml0
  have hown : s.vm.findClass "com/example/arborway/arborway/sim/WalkRunningCountPinLaw" = some m.cls := findClass_of_methodNamed Bd.named
  have hnm := (name_of_methodNamed Bd.named Bd.method).1
  have X0 : Stand p l e ({ frames := 1, cells := 1, slots := 6, locals := 13 } : Room) s m #[(.int (6 : Int32)), (.int pruns6_1)] below meth c s₁ [] 0 0 := Stand.of_body Bd
  have e0 : s₁.heap = h0 := by rw [← hh, Bd.state]; rfl
  have N0 := Fr.nil n0
  have Zr : h0.size ≤ h0.size := Nat.le_refl _
  have pre0 : ∀ t, Steps p.tables e below (s₁.setTop (mkF m 0 #[.val (.int (6 : Int32)), .val (.int pruns6_1), .unset, .unset, .unset, .unset, .unset, .unset] [])) t → Steps p.tables e below (s₁.setTop (entryFrame m #[(.int (6 : Int32)), (.int pruns6_1)] 8)) t := fun t k => castTop (own_efruns6 m pruns6_1) k
  obtain ⟨_, _, ⟨Tkruns6_1, Lkruns6_1, kkruns6_1, nkruns6_1⟩, -, Xkruns6_1, ⟨Lckruns6_1, hQkruns6_1, lkruns6_1, ykruns6_1, zkruns6_1⟩, stkruns6_1⟩ := Jvm.LawKit.callS X0 hx (y := (⟨"com/example/arborway/arborway/sim/WalkRunningCountPinLaw", "bit", "(II)Z"⟩ : MethodName)) hown (mvT hZ (own_W hw 5 rfl)) (mvT hZ (own_W hw 6 rfl)) (mvT hZ (own_W hw 3 rfl)) (mvT hZ (own_W hw 7 rfl)) (by decide) (backOf (W := 0) (own_rm2 l Z a0 hw [] pruns6_1 (0 : Int32) h0 n0 Z0) hZ (own_W hw 7 rfl) (own_W hw 3 rfl) (by decide) (by decide)) (g := (mkF m 2 #[.val (.int (6 : Int32)), .val (.int pruns6_1), .unset, .unset, .unset, .unset, .unset, .unset] [(.int (0 : Int32)), (.int pruns6_1)])) rfl (by rw [hml]; rfl) (argsL := [(.int pruns6_1), (.int (0 : Int32))]) (rest := []) (lenOf own_pd0 rfl) rfl (by show 2 * 0 + _ ≤ _; exact Nat.le_of_eq rfl) (hb hby own_d1_2) (fun _ _ => ⟨rfl, e0, (by decide : 0 + 0 ≤ _), (by decide : 0 + 0 ≤ _)⟩)
  dsimp only [Pt.U, Pt.locs, Pt.cells, Pt.slots] at Xkruns6_1 lkruns6_1 ykruns6_1 zkruns6_1 stkruns6_1 hQkruns6_1
  replace lkruns6_1 := lkruns6_1.symm; replace ykruns6_1 := ykruns6_1.symm; replace zkruns6_1 := zkruns6_1.symm; subst lkruns6_1 ykruns6_1 zkruns6_1
  obtain ⟨rfl, Nkruns6_1q, ekruns6_1⟩ := hQkruns6_1
  have Nkruns6_1 := Fr.app N0 Nkruns6_1q
  obtain ⟨_, _, ⟨Tkruns6_2, Lkruns6_2, kkruns6_2, nkruns6_2⟩, -, Xkruns6_2, ⟨Lckruns6_2, hQkruns6_2, lkruns6_2, ykruns6_2, zkruns6_2⟩, stkruns6_2⟩ := Jvm.LawKit.callS Xkruns6_1 hx (y := (⟨"com/example/arborway/arborway/sim/WalkRunningCountPinLaw", "bit", "(II)Z"⟩ : MethodName)) hown (mvT hZ (own_W hw 5 rfl)) (mvT hZ (own_W hw 6 rfl)) (mvT hZ (own_W hw 3 rfl)) (mvT hZ (own_W hw 7 rfl)) (by decide) (backOf (W := 0) (own_rm2 l Z a0 hw [] pruns6_1 (1 : Int32) h0 n0 Z0) hZ (own_W hw 7 rfl) (own_W hw 3 rfl) (by decide) (by decide)) (g := (mkF m 8 #[.val (.int (6 : Int32)), .val (.int pruns6_1), .val (.int (own_vruns6_0 pruns6_1)), .unset, .unset, .unset, .unset, .unset] [(.int (1 : Int32)), (.int pruns6_1)])) rfl (by rw [hml]; rfl) (argsL := [(.int pruns6_1), (.int (1 : Int32))]) (rest := []) (lenOf own_pd0 rfl) rfl (by show 2 * 0 + _ ≤ _; exact Nat.le_of_eq rfl) (hb hby own_d1_8) (fun _ _ => ⟨rfl, ekruns6_1, (by decide : 0 + 0 ≤ _), (by decide : 0 + 0 ≤ _)⟩)
  dsimp only [Pt.U, Pt.locs, Pt.cells, Pt.slots] at Xkruns6_2 lkruns6_2 ykruns6_2 zkruns6_2 stkruns6_2 hQkruns6_2
  replace lkruns6_2 := lkruns6_2.symm; replace ykruns6_2 := ykruns6_2.symm; replace zkruns6_2 := zkruns6_2.symm; subst lkruns6_2 ykruns6_2 zkruns6_2
  obtain ⟨rfl, Nkruns6_2q, ekruns6_2⟩ := hQkruns6_2
  have Nkruns6_2 := Fr.app Nkruns6_1 Nkruns6_2q
  obtain ⟨_, _, ⟨Tkruns6_3, Lkruns6_3, kkruns6_3, nkruns6_3⟩, -, Xkruns6_3, ⟨Lckruns6_3, hQkruns6_3, lkruns6_3, ykruns6_3, zkruns6_3⟩, stkruns6_3⟩ := Jvm.LawKit.callS Xkruns6_2 hx (y := (⟨"com/example/arborway/arborway/sim/WalkRunningCountPinLaw", "bit", "(II)Z"⟩ : MethodName)) hown (mvT hZ (own_W hw 5 rfl)) (mvT hZ (own_W hw 6 rfl)) (mvT hZ (own_W hw 3 rfl)) (mvT hZ (own_W hw 7 rfl)) (by decide) (backOf (W := 0) (own_rm2 l Z a0 hw [] pruns6_1 (2 : Int32) h0 n0 Z0) hZ (own_W hw 7 rfl) (own_W hw 3 rfl) (by decide) (by decide)) (g := (mkF m 14 #[.val (.int (6 : Int32)), .val (.int pruns6_1), .val (.int (own_vruns6_0 pruns6_1)), .val (.int (own_vruns6_1 pruns6_1)), .unset, .unset, .unset, .unset] [(.int (2 : Int32)), (.int pruns6_1)])) rfl (by rw [hml]; rfl) (argsL := [(.int pruns6_1), (.int (2 : Int32))]) (rest := []) (lenOf own_pd0 rfl) rfl (by show 2 * 0 + _ ≤ _; exact Nat.le_of_eq rfl) (hb hby own_d1_14) (fun _ _ => ⟨rfl, ekruns6_2, (by decide : 0 + 0 ≤ _), (by decide : 0 + 0 ≤ _)⟩)
  dsimp only [Pt.U, Pt.locs, Pt.cells, Pt.slots] at Xkruns6_3 lkruns6_3 ykruns6_3 zkruns6_3 stkruns6_3 hQkruns6_3
  replace lkruns6_3 := lkruns6_3.symm; replace ykruns6_3 := ykruns6_3.symm; replace zkruns6_3 := zkruns6_3.symm; subst lkruns6_3 ykruns6_3 zkruns6_3
  obtain ⟨rfl, Nkruns6_3q, ekruns6_3⟩ := hQkruns6_3
  have Nkruns6_3 := Fr.app Nkruns6_2 Nkruns6_3q
  obtain ⟨_, _, ⟨Tkruns6_4, Lkruns6_4, kkruns6_4, nkruns6_4⟩, -, Xkruns6_4, ⟨Lckruns6_4, hQkruns6_4, lkruns6_4, ykruns6_4, zkruns6_4⟩, stkruns6_4⟩ := Jvm.LawKit.callS Xkruns6_3 hx (y := (⟨"com/example/arborway/arborway/sim/WalkRunningCountPinLaw", "bit", "(II)Z"⟩ : MethodName)) hown (mvT hZ (own_W hw 5 rfl)) (mvT hZ (own_W hw 6 rfl)) (mvT hZ (own_W hw 3 rfl)) (mvT hZ (own_W hw 7 rfl)) (by decide) (backOf (W := 0) (own_rm2 l Z a0 hw [] pruns6_1 (3 : Int32) h0 n0 Z0) hZ (own_W hw 7 rfl) (own_W hw 3 rfl) (by decide) (by decide)) (g := (mkF m 21 #[.val (.int (6 : Int32)), .val (.int pruns6_1), .val (.int (own_vruns6_0 pruns6_1)), .val (.int (own_vruns6_1 pruns6_1)), .val (.int (own_vruns6_2 pruns6_1)), .unset, .unset, .unset] [(.int (3 : Int32)), (.int pruns6_1)])) rfl (by rw [hml]; rfl) (argsL := [(.int pruns6_1), (.int (3 : Int32))]) (rest := []) (lenOf own_pd0 rfl) rfl (by show 2 * 0 + _ ≤ _; exact Nat.le_of_eq rfl) (hb hby own_d1_21) (fun _ _ => ⟨rfl, ekruns6_3, (by decide : 0 + 0 ≤ _), (by decide : 0 + 0 ≤ _)⟩)
  dsimp only [Pt.U, Pt.locs, Pt.cells, Pt.slots] at Xkruns6_4 lkruns6_4 ykruns6_4 zkruns6_4 stkruns6_4 hQkruns6_4
  replace lkruns6_4 := lkruns6_4.symm; replace ykruns6_4 := ykruns6_4.symm; replace zkruns6_4 := zkruns6_4.symm; subst lkruns6_4 ykruns6_4 zkruns6_4
  obtain ⟨rfl, Nkruns6_4q, ekruns6_4⟩ := hQkruns6_4
  have Nkruns6_4 := Fr.app Nkruns6_3 Nkruns6_4q
  obtain ⟨_, _, ⟨Tkruns6_5, Lkruns6_5, kkruns6_5, nkruns6_5⟩, -, Xkruns6_5, ⟨Lckruns6_5, hQkruns6_5, lkruns6_5, ykruns6_5, zkruns6_5⟩, stkruns6_5⟩ := Jvm.LawKit.callS Xkruns6_4 hx (y := (⟨"com/example/arborway/arborway/sim/WalkRunningCountPinLaw", "bit", "(II)Z"⟩ : MethodName)) hown (mvT hZ (own_W hw 5 rfl)) (mvT hZ (own_W hw 6 rfl)) (mvT hZ (own_W hw 3 rfl)) (mvT hZ (own_W hw 7 rfl)) (by decide) (backOf (W := 0) (own_rm2 l Z a0 hw [] pruns6_1 (4 : Int32) h0 n0 Z0) hZ (own_W hw 7 rfl) (own_W hw 3 rfl) (by decide) (by decide)) (g := (mkF m 28 #[.val (.int (6 : Int32)), .val (.int pruns6_1), .val (.int (own_vruns6_0 pruns6_1)), .val (.int (own_vruns6_1 pruns6_1)), .val (.int (own_vruns6_2 pruns6_1)), .val (.int (own_vruns6_3 pruns6_1)), .unset, .unset] [(.int (4 : Int32)), (.int pruns6_1)])) rfl (by rw [hml]; rfl) (argsL := [(.int pruns6_1), (.int (4 : Int32))]) (rest := []) (lenOf own_pd0 rfl) rfl (by show 2 * 0 + _ ≤ _; exact Nat.le_of_eq rfl) (hb hby own_d1_28) (fun _ _ => ⟨rfl, ekruns6_4, (by decide : 0 + 0 ≤ _), (by decide : 0 + 0 ≤ _)⟩)
  dsimp only [Pt.U, Pt.locs, Pt.cells, Pt.slots] at Xkruns6_5 lkruns6_5 ykruns6_5 zkruns6_5 stkruns6_5 hQkruns6_5
  replace lkruns6_5 := lkruns6_5.symm; replace ykruns6_5 := ykruns6_5.symm; replace zkruns6_5 := zkruns6_5.symm; subst lkruns6_5 ykruns6_5 zkruns6_5
  obtain ⟨rfl, Nkruns6_5q, ekruns6_5⟩ := hQkruns6_5
  have Nkruns6_5 := Fr.app Nkruns6_4 Nkruns6_5q
  obtain ⟨_, _, ⟨Tkruns6_6, Lkruns6_6, kkruns6_6, nkruns6_6⟩, -, Xkruns6_6, ⟨Lckruns6_6, hQkruns6_6, lkruns6_6, ykruns6_6, zkruns6_6⟩, stkruns6_6⟩ := Jvm.LawKit.callS Xkruns6_5 hx (y := (⟨"com/example/arborway/arborway/sim/WalkRunningCountPinLaw", "bit", "(II)Z"⟩ : MethodName)) hown (mvT hZ (own_W hw 5 rfl)) (mvT hZ (own_W hw 6 rfl)) (mvT hZ (own_W hw 3 rfl)) (mvT hZ (own_W hw 7 rfl)) (by decide) (backOf (W := 0) (own_rm2 l Z a0 hw [] pruns6_1 (5 : Int32) h0 n0 Z0) hZ (own_W hw 7 rfl) (own_W hw 3 rfl) (by decide) (by decide)) (g := (mkF m 35 #[.val (.int (6 : Int32)), .val (.int pruns6_1), .val (.int (own_vruns6_0 pruns6_1)), .val (.int (own_vruns6_1 pruns6_1)), .val (.int (own_vruns6_2 pruns6_1)), .val (.int (own_vruns6_3 pruns6_1)), .val (.int (own_vruns6_4 pruns6_1)), .unset] [(.int (5 : Int32)), (.int pruns6_1)])) rfl (by rw [hml]; rfl) (argsL := [(.int pruns6_1), (.int (5 : Int32))]) (rest := []) (lenOf own_pd0 rfl) rfl (by show 2 * 0 + _ ≤ _; exact Nat.le_of_eq rfl) (hb hby own_d1_35) (fun _ _ => ⟨rfl, ekruns6_5, (by decide : 0 + 0 ≤ _), (by decide : 0 + 0 ≤ _)⟩)
  dsimp only [Pt.U, Pt.locs, Pt.cells, Pt.slots] at Xkruns6_6 lkruns6_6 ykruns6_6 zkruns6_6 stkruns6_6 hQkruns6_6
  replace lkruns6_6 := lkruns6_6.symm; replace ykruns6_6 := ykruns6_6.symm; replace zkruns6_6 := zkruns6_6.symm; subst lkruns6_6 ykruns6_6 zkruns6_6
  obtain ⟨rfl, Nkruns6_6q, ekruns6_6⟩ := hQkruns6_6
  have Nkruns6_6 := Fr.app Nkruns6_5 Nkruns6_6q
  obtain ⟨Tnruns6_7, hnruns6_7, knruns6_7, Xnruns6_7, enruns6_7, Enruns6_7, Anruns6_7, stnruns6_7⟩ := newP Xkruns6_6 hx hZ (own_W hw 8 rfl) ekruns6_6 (g := (mkF m 161 #[.val (.int (6 : Int32)), .val (.int pruns6_1), .val (.int (own_vruns6_0 pruns6_1)), .val (.int (own_vruns6_1 pruns6_1)), .val (.int (own_vruns6_2 pruns6_1)), .val (.int (own_vruns6_3 pruns6_1)), .val (.int (own_vruns6_4 pruns6_1)), .val (.int (own_vruns6_5 pruns6_1))] [(.int (6 : Int32))])) rfl (hb hby own_d1_161) rfl (by decide) (cap := 6) (by decide) (by decide) (by decide) (by decide)
  obtain ⟨bnruns6_7, gnruns6_7⟩ : ∃ z, z = h0.size := ⟨_, rfl⟩
  rw [← gnruns6_7] at Anruns6_7 stnruns6_7
  have g_bnruns6_7 : n0 ≤ bnruns6_7 := Nat.le_trans Z0 (Nat.le_of_eq gnruns6_7.symm)
  have sz_bnruns6_7 : h0.size ≤ bnruns6_7 := Nat.le_trans Zr (Nat.le_of_eq gnruns6_7.symm)
  have szruns6_8 : h0.size ≤ hnruns6_7.size := Nat.le_trans Zr Enruns6_7.1
  have V_bnruns6_7 : Arv Z hnruns6_7 bnruns6_7 knruns6_7 .boolean (6 : Int32) [(.int (0 : Int32)), (.int (0 : Int32)), (.int (0 : Int32)), (.int (0 : Int32)), (.int (0 : Int32)), (.int (0 : Int32))] (.int (0 : Int32)) := (Arv.new Anruns6_7 (by decide)).pad (pad_rep [] (.int (0 : Int32)) 6)
  have Ooruns6_9 := V_bnruns6_7
  obtain ⟨cloruns6_9, Aroruns6_9, qoruns6_9, Soruns6_9, Noruns6_9, Horuns6_9, Goruns6_9⟩ := Ooruns6_9
  have hinoruns6_9 : ¬ ((0 : Int32) < 0 ∨ cloruns6_9.slots.size ≤ ((0 : Int32)).toNatClampNeg) := inb_of Soruns6_9 ⟨by decide, by decide⟩
  obtain ⟨Toruns6_9, horuns6_9, Xoruns6_9, eoruns6_9, Woruns6_9, storuns6_9⟩ := stZ Xnruns6_7 hx hZ enruns6_7 Aroruns6_9 (j := (0 : Int32)) hinoruns6_9 (g := (mkF m 166 #[.val (.int (6 : Int32)), .val (.int pruns6_1), .val (.int (own_vruns6_0 pruns6_1)), .val (.int (own_vruns6_1 pruns6_1)), .val (.int (own_vruns6_2 pruns6_1)), .val (.int (own_vruns6_3 pruns6_1)), .val (.int (own_vruns6_4 pruns6_1)), .val (.int (own_vruns6_5 pruns6_1))] [(.int (own_vruns6_0 pruns6_1)), (.int (0 : Int32)), (.ref bnruns6_7), (.ref bnruns6_7)])) rfl rfl (hb hby own_d1_166)
  have Vworuns6_9 : Arv Z horuns6_9 bnruns6_7 knruns6_7 .boolean (6 : Int32) [(.int (nar .boolean (own_vruns6_0 pruns6_1))), (.int (0 : Int32)), (.int (0 : Int32)), (.int (0 : Int32)), (.int (0 : Int32)), (.int (0 : Int32))] (.int (0 : Int32)) := Arv.set Aroruns6_9 qoruns6_9 Soruns6_9 Noruns6_9 Horuns6_9 Goruns6_9 (fits_nar_bool _) Woruns6_9 0 rfl (Nat.le_of_ble_eq_true rfl)
  have szruns6_10 : h0.size ≤ horuns6_9.size := Nat.le_trans szruns6_8 (Nat.le_of_eq Woruns6_9.size.symm)
  have Nforuns6_9 := Fr.snoc Xoruns6_9 Nkruns6_6 g_bnruns6_7
  have Ooruns6_11 := Vworuns6_9
  obtain ⟨cloruns6_11, Aroruns6_11, qoruns6_11, Soruns6_11, Noruns6_11, Horuns6_11, Goruns6_11⟩ := Ooruns6_11
  have hinoruns6_11 : ¬ ((1 : Int32) < 0 ∨ cloruns6_11.slots.size ≤ ((1 : Int32)).toNatClampNeg) := inb_of Soruns6_11 ⟨by decide, by decide⟩
  obtain ⟨Toruns6_11, horuns6_11, Xoruns6_11, eoruns6_11, Woruns6_11, storuns6_11⟩ := stZ Xoruns6_9 hx hZ eoruns6_9 Aroruns6_11 (j := (1 : Int32)) hinoruns6_11 (g := (mkF m 170 #[.val (.int (6 : Int32)), .val (.int pruns6_1), .val (.int (own_vruns6_0 pruns6_1)), .val (.int (own_vruns6_1 pruns6_1)), .val (.int (own_vruns6_2 pruns6_1)), .val (.int (own_vruns6_3 pruns6_1)), .val (.int (own_vruns6_4 pruns6_1)), .val (.int (own_vruns6_5 pruns6_1))] [(.int (own_vruns6_1 pruns6_1)), (.int (1 : Int32)), (.ref bnruns6_7), (.ref bnruns6_7)])) rfl rfl (hb hby own_d1_170)
  have Vworuns6_11 : Arv Z horuns6_11 bnruns6_7 knruns6_7 .boolean (6 : Int32) [(.int (nar .boolean (own_vruns6_0 pruns6_1))), (.int (nar .boolean (own_vruns6_1 pruns6_1))), (.int (0 : Int32)), (.int (0 : Int32)), (.int (0 : Int32)), (.int (0 : Int32))] (.int (0 : Int32)) := Arv.set Aroruns6_11 qoruns6_11 Soruns6_11 Noruns6_11 Horuns6_11 Goruns6_11 (fits_nar_bool _) Woruns6_11 1 rfl (Nat.le_of_ble_eq_true rfl)
  have szruns6_12 : h0.size ≤ horuns6_11.size := Nat.le_trans szruns6_10 (Nat.le_of_eq Woruns6_11.size.symm)
  have Nforuns6_11 := Fr.snoc Xoruns6_11 Nforuns6_9 g_bnruns6_7
  have Ooruns6_13 := Vworuns6_11
  obtain ⟨cloruns6_13, Aroruns6_13, qoruns6_13, Soruns6_13, Noruns6_13, Horuns6_13, Goruns6_13⟩ := Ooruns6_13
  have hinoruns6_13 : ¬ ((2 : Int32) < 0 ∨ cloruns6_13.slots.size ≤ ((2 : Int32)).toNatClampNeg) := inb_of Soruns6_13 ⟨by decide, by decide⟩
  obtain ⟨Toruns6_13, horuns6_13, Xoruns6_13, eoruns6_13, Woruns6_13, storuns6_13⟩ := stZ Xoruns6_11 hx hZ eoruns6_11 Aroruns6_13 (j := (2 : Int32)) hinoruns6_13 (g := (mkF m 175 #[.val (.int (6 : Int32)), .val (.int pruns6_1), .val (.int (own_vruns6_0 pruns6_1)), .val (.int (own_vruns6_1 pruns6_1)), .val (.int (own_vruns6_2 pruns6_1)), .val (.int (own_vruns6_3 pruns6_1)), .val (.int (own_vruns6_4 pruns6_1)), .val (.int (own_vruns6_5 pruns6_1))] [(.int (own_vruns6_2 pruns6_1)), (.int (2 : Int32)), (.ref bnruns6_7), (.ref bnruns6_7)])) rfl rfl (hb hby own_d1_175)
  have Vworuns6_13 : Arv Z horuns6_13 bnruns6_7 knruns6_7 .boolean (6 : Int32) [(.int (nar .boolean (own_vruns6_0 pruns6_1))), (.int (nar .boolean (own_vruns6_1 pruns6_1))), (.int (nar .boolean (own_vruns6_2 pruns6_1))), (.int (0 : Int32)), (.int (0 : Int32)), (.int (0 : Int32))] (.int (0 : Int32)) := Arv.set Aroruns6_13 qoruns6_13 Soruns6_13 Noruns6_13 Horuns6_13 Goruns6_13 (fits_nar_bool _) Woruns6_13 2 rfl (Nat.le_of_ble_eq_true rfl)
  have szruns6_14 : h0.size ≤ horuns6_13.size := Nat.le_trans szruns6_12 (Nat.le_of_eq Woruns6_13.size.symm)
  have Nforuns6_13 := Fr.snoc Xoruns6_13 Nforuns6_11 g_bnruns6_7
  have Ooruns6_15 := Vworuns6_13
  obtain ⟨cloruns6_15, Aroruns6_15, qoruns6_15, Soruns6_15, Noruns6_15, Horuns6_15, Goruns6_15⟩ := Ooruns6_15
  have hinoruns6_15 : ¬ ((3 : Int32) < 0 ∨ cloruns6_15.slots.size ≤ ((3 : Int32)).toNatClampNeg) := inb_of Soruns6_15 ⟨by decide, by decide⟩
  obtain ⟨Toruns6_15, horuns6_15, Xoruns6_15, eoruns6_15, Woruns6_15, storuns6_15⟩ := stZ Xoruns6_13 hx hZ eoruns6_13 Aroruns6_15 (j := (3 : Int32)) hinoruns6_15 (g := (mkF m 180 #[.val (.int (6 : Int32)), .val (.int pruns6_1), .val (.int (own_vruns6_0 pruns6_1)), .val (.int (own_vruns6_1 pruns6_1)), .val (.int (own_vruns6_2 pruns6_1)), .val (.int (own_vruns6_3 pruns6_1)), .val (.int (own_vruns6_4 pruns6_1)), .val (.int (own_vruns6_5 pruns6_1))] [(.int (own_vruns6_3 pruns6_1)), (.int (3 : Int32)), (.ref bnruns6_7), (.ref bnruns6_7)])) rfl rfl (hb hby own_d1_180)
  have Vworuns6_15 : Arv Z horuns6_15 bnruns6_7 knruns6_7 .boolean (6 : Int32) [(.int (nar .boolean (own_vruns6_0 pruns6_1))), (.int (nar .boolean (own_vruns6_1 pruns6_1))), (.int (nar .boolean (own_vruns6_2 pruns6_1))), (.int (nar .boolean (own_vruns6_3 pruns6_1))), (.int (0 : Int32)), (.int (0 : Int32))] (.int (0 : Int32)) := Arv.set Aroruns6_15 qoruns6_15 Soruns6_15 Noruns6_15 Horuns6_15 Goruns6_15 (fits_nar_bool _) Woruns6_15 3 rfl (Nat.le_of_ble_eq_true rfl)
  have szruns6_16 : h0.size ≤ horuns6_15.size := Nat.le_trans szruns6_14 (Nat.le_of_eq Woruns6_15.size.symm)
  have Nforuns6_15 := Fr.snoc Xoruns6_15 Nforuns6_13 g_bnruns6_7
  have Ooruns6_17 := Vworuns6_15
  obtain ⟨cloruns6_17, Aroruns6_17, qoruns6_17, Soruns6_17, Noruns6_17, Horuns6_17, Goruns6_17⟩ := Ooruns6_17
  have hinoruns6_17 : ¬ ((4 : Int32) < 0 ∨ cloruns6_17.slots.size ≤ ((4 : Int32)).toNatClampNeg) := inb_of Soruns6_17 ⟨by decide, by decide⟩
  obtain ⟨Toruns6_17, horuns6_17, Xoruns6_17, eoruns6_17, Woruns6_17, storuns6_17⟩ := stZ Xoruns6_15 hx hZ eoruns6_15 Aroruns6_17 (j := (4 : Int32)) hinoruns6_17 (g := (mkF m 185 #[.val (.int (6 : Int32)), .val (.int pruns6_1), .val (.int (own_vruns6_0 pruns6_1)), .val (.int (own_vruns6_1 pruns6_1)), .val (.int (own_vruns6_2 pruns6_1)), .val (.int (own_vruns6_3 pruns6_1)), .val (.int (own_vruns6_4 pruns6_1)), .val (.int (own_vruns6_5 pruns6_1))] [(.int (own_vruns6_4 pruns6_1)), (.int (4 : Int32)), (.ref bnruns6_7), (.ref bnruns6_7)])) rfl rfl (hb hby own_d1_185)
  have Vworuns6_17 : Arv Z horuns6_17 bnruns6_7 knruns6_7 .boolean (6 : Int32) [(.int (nar .boolean (own_vruns6_0 pruns6_1))), (.int (nar .boolean (own_vruns6_1 pruns6_1))), (.int (nar .boolean (own_vruns6_2 pruns6_1))), (.int (nar .boolean (own_vruns6_3 pruns6_1))), (.int (nar .boolean (own_vruns6_4 pruns6_1))), (.int (0 : Int32))] (.int (0 : Int32)) := Arv.set Aroruns6_17 qoruns6_17 Soruns6_17 Noruns6_17 Horuns6_17 Goruns6_17 (fits_nar_bool _) Woruns6_17 4 rfl (Nat.le_of_ble_eq_true rfl)
  have szruns6_18 : h0.size ≤ horuns6_17.size := Nat.le_trans szruns6_16 (Nat.le_of_eq Woruns6_17.size.symm)
  have Nforuns6_17 := Fr.snoc Xoruns6_17 Nforuns6_15 g_bnruns6_7
  have Ooruns6_19 := Vworuns6_17
  obtain ⟨cloruns6_19, Aroruns6_19, qoruns6_19, Soruns6_19, Noruns6_19, Horuns6_19, Goruns6_19⟩ := Ooruns6_19
  have hinoruns6_19 : ¬ ((5 : Int32) < 0 ∨ cloruns6_19.slots.size ≤ ((5 : Int32)).toNatClampNeg) := inb_of Soruns6_19 ⟨by decide, by decide⟩
  obtain ⟨Toruns6_19, horuns6_19, Xoruns6_19, eoruns6_19, Woruns6_19, storuns6_19⟩ := stZ Xoruns6_17 hx hZ eoruns6_17 Aroruns6_19 (j := (5 : Int32)) hinoruns6_19 (g := (mkF m 190 #[.val (.int (6 : Int32)), .val (.int pruns6_1), .val (.int (own_vruns6_0 pruns6_1)), .val (.int (own_vruns6_1 pruns6_1)), .val (.int (own_vruns6_2 pruns6_1)), .val (.int (own_vruns6_3 pruns6_1)), .val (.int (own_vruns6_4 pruns6_1)), .val (.int (own_vruns6_5 pruns6_1))] [(.int (own_vruns6_5 pruns6_1)), (.int (5 : Int32)), (.ref bnruns6_7), (.ref bnruns6_7)])) rfl rfl (hb hby own_d1_190)
  have Vworuns6_19 : Arv Z horuns6_19 bnruns6_7 knruns6_7 .boolean (6 : Int32) [(.int (nar .boolean (own_vruns6_0 pruns6_1))), (.int (nar .boolean (own_vruns6_1 pruns6_1))), (.int (nar .boolean (own_vruns6_2 pruns6_1))), (.int (nar .boolean (own_vruns6_3 pruns6_1))), (.int (nar .boolean (own_vruns6_4 pruns6_1))), (.int (nar .boolean (own_vruns6_5 pruns6_1)))] (.int (0 : Int32)) := Arv.set Aroruns6_19 qoruns6_19 Soruns6_19 Noruns6_19 Horuns6_19 Goruns6_19 (fits_nar_bool _) Woruns6_19 5 rfl (Nat.le_of_ble_eq_true rfl)
  have szruns6_20 : h0.size ≤ horuns6_19.size := Nat.le_trans szruns6_18 (Nat.le_of_eq Woruns6_19.size.symm)
  have Nforuns6_19 := Fr.snoc Xoruns6_19 Nforuns6_17 g_bnruns6_7
  obtain ⟨fs, hr, hrun, hended, hW, hsame⟩ := Xoruns6_19.leave (v := some (.ref bnruns6_7)) (fun h => by rw [Bd.returns] at h; cases h)
  refine ⟨_, _, pre0 _ (?_), hrun, hended, _, _, rfl, ?_, ⟨_, rfl⟩, hW, hsame.mono (by decide) (by decide)⟩
  · show Steps p.tables e below (s₁.setTop (mkF m 0 #[.val (.int (6 : Int32)), .val (.int pruns6_1), .unset, .unset, .unset, .unset, .unset, .unset] [])) _
    refine XS.iloadN X0.here hx rfl (hb hby own_d1_0) rfl ?_
    refine XS.iconst X0.here hx rfl (hb hby own_d1_1) ?_
    refine stkruns6_1 _ ?_
    show Steps p.tables e below (Tkruns6_1.setTop (mkF m 5 #[.val (.int (6 : Int32)), .val (.int pruns6_1), .unset, .unset, .unset, .unset, .unset, .unset] [(.int (own_r2_1 pruns6_1 (0 : Int32)))])) _
    refine XS.istoreN Xkruns6_1.here hx rfl (hb hby own_d1_5) rfl (l' := #[.val (.int (6 : Int32)), .val (.int pruns6_1), .val (.int (own_vruns6_0 pruns6_1)), .unset, .unset, .unset, .unset, .unset]) rfl ?_
    refine XS.iloadN Xkruns6_1.here hx rfl (hb hby own_d1_6) rfl ?_
    refine XS.iconst Xkruns6_1.here hx rfl (hb hby own_d1_7) ?_
    refine stkruns6_2 _ ?_
    show Steps p.tables e below (Tkruns6_2.setTop (mkF m 11 #[.val (.int (6 : Int32)), .val (.int pruns6_1), .val (.int (own_vruns6_0 pruns6_1)), .unset, .unset, .unset, .unset, .unset] [(.int (own_r2_1 pruns6_1 (1 : Int32)))])) _
    refine XS.istoreN Xkruns6_2.here hx rfl (hb hby own_d1_11) rfl (l' := #[.val (.int (6 : Int32)), .val (.int pruns6_1), .val (.int (own_vruns6_0 pruns6_1)), .val (.int (own_vruns6_1 pruns6_1)), .unset, .unset, .unset, .unset]) rfl ?_
    refine XS.iloadN Xkruns6_2.here hx rfl (hb hby own_d1_12) rfl ?_
    refine XS.iconst Xkruns6_2.here hx rfl (hb hby own_d1_13) ?_
    refine stkruns6_3 _ ?_
    show Steps p.tables e below (Tkruns6_3.setTop (mkF m 17 #[.val (.int (6 : Int32)), .val (.int pruns6_1), .val (.int (own_vruns6_0 pruns6_1)), .val (.int (own_vruns6_1 pruns6_1)), .unset, .unset, .unset, .unset] [(.int (own_r2_1 pruns6_1 (2 : Int32)))])) _
    refine XS.istore Xkruns6_3.here hx rfl (hb hby own_d1_17) rfl (l' := #[.val (.int (6 : Int32)), .val (.int pruns6_1), .val (.int (own_vruns6_0 pruns6_1)), .val (.int (own_vruns6_1 pruns6_1)), .val (.int (own_vruns6_2 pruns6_1)), .unset, .unset, .unset]) rfl ?_
    refine XS.iloadN Xkruns6_3.here hx rfl (hb hby own_d1_19) rfl ?_
    refine XS.iconst Xkruns6_3.here hx rfl (hb hby own_d1_20) ?_
    refine stkruns6_4 _ ?_
    show Steps p.tables e below (Tkruns6_4.setTop (mkF m 24 #[.val (.int (6 : Int32)), .val (.int pruns6_1), .val (.int (own_vruns6_0 pruns6_1)), .val (.int (own_vruns6_1 pruns6_1)), .val (.int (own_vruns6_2 pruns6_1)), .unset, .unset, .unset] [(.int (own_r2_1 pruns6_1 (3 : Int32)))])) _
    refine XS.istore Xkruns6_4.here hx rfl (hb hby own_d1_24) rfl (l' := #[.val (.int (6 : Int32)), .val (.int pruns6_1), .val (.int (own_vruns6_0 pruns6_1)), .val (.int (own_vruns6_1 pruns6_1)), .val (.int (own_vruns6_2 pruns6_1)), .val (.int (own_vruns6_3 pruns6_1)), .unset, .unset]) rfl ?_
    refine XS.iloadN Xkruns6_4.here hx rfl (hb hby own_d1_26) rfl ?_
    refine XS.iconst Xkruns6_4.here hx rfl (hb hby own_d1_27) ?_
    refine stkruns6_5 _ ?_
    show Steps p.tables e below (Tkruns6_5.setTop (mkF m 31 #[.val (.int (6 : Int32)), .val (.int pruns6_1), .val (.int (own_vruns6_0 pruns6_1)), .val (.int (own_vruns6_1 pruns6_1)), .val (.int (own_vruns6_2 pruns6_1)), .val (.int (own_vruns6_3 pruns6_1)), .unset, .unset] [(.int (own_r2_1 pruns6_1 (4 : Int32)))])) _
    refine XS.istore Xkruns6_5.here hx rfl (hb hby own_d1_31) rfl (l' := #[.val (.int (6 : Int32)), .val (.int pruns6_1), .val (.int (own_vruns6_0 pruns6_1)), .val (.int (own_vruns6_1 pruns6_1)), .val (.int (own_vruns6_2 pruns6_1)), .val (.int (own_vruns6_3 pruns6_1)), .val (.int (own_vruns6_4 pruns6_1)), .unset]) rfl ?_
    refine XS.iloadN Xkruns6_5.here hx rfl (hb hby own_d1_33) rfl ?_
    refine XS.iconst Xkruns6_5.here hx rfl (hb hby own_d1_34) ?_
    refine stkruns6_6 _ ?_
    show Steps p.tables e below (Tkruns6_6.setTop (mkF m 38 #[.val (.int (6 : Int32)), .val (.int pruns6_1), .val (.int (own_vruns6_0 pruns6_1)), .val (.int (own_vruns6_1 pruns6_1)), .val (.int (own_vruns6_2 pruns6_1)), .val (.int (own_vruns6_3 pruns6_1)), .val (.int (own_vruns6_4 pruns6_1)), .unset] [(.int (own_r2_1 pruns6_1 (5 : Int32)))])) _
    refine XS.istore Xkruns6_6.here hx rfl (hb hby own_d1_38) rfl (l' := #[.val (.int (6 : Int32)), .val (.int pruns6_1), .val (.int (own_vruns6_0 pruns6_1)), .val (.int (own_vruns6_1 pruns6_1)), .val (.int (own_vruns6_2 pruns6_1)), .val (.int (own_vruns6_3 pruns6_1)), .val (.int (own_vruns6_4 pruns6_1)), .val (.int (own_vruns6_5 pruns6_1))]) rfl ?_
    refine XS.iloadN Xkruns6_6.here hx rfl (hb hby own_d1_40) rfl ?_
    refine XS.ifYes Xkruns6_6.here hx rfl (pc0 := 41) (pc' := 48) rfl (hb hby own_d1_41) rfl (XT.i0_ne_t (by decide : ¬ ((6 : Int32) = (0 : Int32)))) (by decide) (by decide) ?_
    refine XS.iloadN Xkruns6_6.here hx rfl (hb hby own_d1_48) rfl ?_
    refine XS.iconst Xkruns6_6.here hx rfl (hb hby own_d1_49) ?_
    refine XS.icmpYes Xkruns6_6.here hx rfl (pc0 := 50) (pc' := 61) rfl (hb hby own_d1_50) rfl (XT.ii_ne_t (by decide : ¬ ((6 : Int32) = (1 : Int32)))) (by decide) (by decide) ?_
    refine XS.iloadN Xkruns6_6.here hx rfl (hb hby own_d1_61) rfl ?_
    refine XS.iconst Xkruns6_6.here hx rfl (hb hby own_d1_62) ?_
    refine XS.icmpYes Xkruns6_6.here hx rfl (pc0 := 63) (pc' := 78) rfl (hb hby own_d1_63) rfl (XT.ii_ne_t (by decide : ¬ ((6 : Int32) = (2 : Int32)))) (by decide) (by decide) ?_
    refine XS.iloadN Xkruns6_6.here hx rfl (hb hby own_d1_78) rfl ?_
    refine XS.iconst Xkruns6_6.here hx rfl (hb hby own_d1_79) ?_
    refine XS.icmpYes Xkruns6_6.here hx rfl (pc0 := 80) (pc' := 100) rfl (hb hby own_d1_80) rfl (XT.ii_ne_t (by decide : ¬ ((6 : Int32) = (3 : Int32)))) (by decide) (by decide) ?_
    refine XS.iloadN Xkruns6_6.here hx rfl (hb hby own_d1_100) rfl ?_
    refine XS.iconst Xkruns6_6.here hx rfl (hb hby own_d1_101) ?_
    refine XS.icmpYes Xkruns6_6.here hx rfl (pc0 := 102) (pc' := 127) rfl (hb hby own_d1_102) rfl (XT.ii_ne_t (by decide : ¬ ((6 : Int32) = (4 : Int32)))) (by decide) (by decide) ?_
    refine XS.iloadN Xkruns6_6.here hx rfl (hb hby own_d1_127) rfl ?_
    refine XS.iconst Xkruns6_6.here hx rfl (hb hby own_d1_128) ?_
    refine XS.icmpYes Xkruns6_6.here hx rfl (pc0 := 129) (pc' := 159) rfl (hb hby own_d1_129) rfl (XT.ii_ne_t (by decide : ¬ ((6 : Int32) = (5 : Int32)))) (by decide) (by decide) ?_
    refine XS.bipush Xkruns6_6.here hx rfl (hb hby own_d1_159) ?_
    refine stnruns6_7 _ ?_
    show Steps p.tables e below (Tnruns6_7.setTop (mkF m 163 #[.val (.int (6 : Int32)), .val (.int pruns6_1), .val (.int (own_vruns6_0 pruns6_1)), .val (.int (own_vruns6_1 pruns6_1)), .val (.int (own_vruns6_2 pruns6_1)), .val (.int (own_vruns6_3 pruns6_1)), .val (.int (own_vruns6_4 pruns6_1)), .val (.int (own_vruns6_5 pruns6_1))] [(.ref bnruns6_7)])) _
    refine XS.dup Xnruns6_7.here hx rfl (hb hby own_d1_163) rfl rfl ?_
    refine XS.iconst Xnruns6_7.here hx rfl (hb hby own_d1_164) ?_
    refine XS.iloadN Xnruns6_7.here hx rfl (hb hby own_d1_165) rfl ?_
    refine storuns6_9 _ ?_
    show Steps p.tables e below (Toruns6_9.setTop (mkF m 167 #[.val (.int (6 : Int32)), .val (.int pruns6_1), .val (.int (own_vruns6_0 pruns6_1)), .val (.int (own_vruns6_1 pruns6_1)), .val (.int (own_vruns6_2 pruns6_1)), .val (.int (own_vruns6_3 pruns6_1)), .val (.int (own_vruns6_4 pruns6_1)), .val (.int (own_vruns6_5 pruns6_1))] [(.ref bnruns6_7)])) _
    refine XS.dup Xoruns6_9.here hx rfl (hb hby own_d1_167) rfl rfl ?_
    refine XS.iconst Xoruns6_9.here hx rfl (hb hby own_d1_168) ?_
    refine XS.iloadN Xoruns6_9.here hx rfl (hb hby own_d1_169) rfl ?_
    refine storuns6_11 _ ?_
    show Steps p.tables e below (Toruns6_11.setTop (mkF m 171 #[.val (.int (6 : Int32)), .val (.int pruns6_1), .val (.int (own_vruns6_0 pruns6_1)), .val (.int (own_vruns6_1 pruns6_1)), .val (.int (own_vruns6_2 pruns6_1)), .val (.int (own_vruns6_3 pruns6_1)), .val (.int (own_vruns6_4 pruns6_1)), .val (.int (own_vruns6_5 pruns6_1))] [(.ref bnruns6_7)])) _
    refine XS.dup Xoruns6_11.here hx rfl (hb hby own_d1_171) rfl rfl ?_
    refine XS.iconst Xoruns6_11.here hx rfl (hb hby own_d1_172) ?_
    refine XS.iload Xoruns6_11.here hx rfl (hb hby own_d1_173) rfl ?_
    refine storuns6_13 _ ?_
    show Steps p.tables e below (Toruns6_13.setTop (mkF m 176 #[.val (.int (6 : Int32)), .val (.int pruns6_1), .val (.int (own_vruns6_0 pruns6_1)), .val (.int (own_vruns6_1 pruns6_1)), .val (.int (own_vruns6_2 pruns6_1)), .val (.int (own_vruns6_3 pruns6_1)), .val (.int (own_vruns6_4 pruns6_1)), .val (.int (own_vruns6_5 pruns6_1))] [(.ref bnruns6_7)])) _
    refine XS.dup Xoruns6_13.here hx rfl (hb hby own_d1_176) rfl rfl ?_
    refine XS.iconst Xoruns6_13.here hx rfl (hb hby own_d1_177) ?_
    refine XS.iload Xoruns6_13.here hx rfl (hb hby own_d1_178) rfl ?_
    refine storuns6_15 _ ?_
    show Steps p.tables e below (Toruns6_15.setTop (mkF m 181 #[.val (.int (6 : Int32)), .val (.int pruns6_1), .val (.int (own_vruns6_0 pruns6_1)), .val (.int (own_vruns6_1 pruns6_1)), .val (.int (own_vruns6_2 pruns6_1)), .val (.int (own_vruns6_3 pruns6_1)), .val (.int (own_vruns6_4 pruns6_1)), .val (.int (own_vruns6_5 pruns6_1))] [(.ref bnruns6_7)])) _
    refine XS.dup Xoruns6_15.here hx rfl (hb hby own_d1_181) rfl rfl ?_
    refine XS.iconst Xoruns6_15.here hx rfl (hb hby own_d1_182) ?_
    refine XS.iload Xoruns6_15.here hx rfl (hb hby own_d1_183) rfl ?_
    refine storuns6_17 _ ?_
    show Steps p.tables e below (Toruns6_17.setTop (mkF m 186 #[.val (.int (6 : Int32)), .val (.int pruns6_1), .val (.int (own_vruns6_0 pruns6_1)), .val (.int (own_vruns6_1 pruns6_1)), .val (.int (own_vruns6_2 pruns6_1)), .val (.int (own_vruns6_3 pruns6_1)), .val (.int (own_vruns6_4 pruns6_1)), .val (.int (own_vruns6_5 pruns6_1))] [(.ref bnruns6_7)])) _
    refine XS.dup Xoruns6_17.here hx rfl (hb hby own_d1_186) rfl rfl ?_
    refine XS.iconst Xoruns6_17.here hx rfl (hb hby own_d1_187) ?_
    refine XS.iload Xoruns6_17.here hx rfl (hb hby own_d1_188) rfl ?_
    refine storuns6_19 _ ?_
    show Steps p.tables e below (Toruns6_19.setTop (mkF m 191 #[.val (.int (6 : Int32)), .val (.int pruns6_1), .val (.int (own_vruns6_0 pruns6_1)), .val (.int (own_vruns6_1 pruns6_1)), .val (.int (own_vruns6_2 pruns6_1)), .val (.int (own_vruns6_3 pruns6_1)), .val (.int (own_vruns6_4 pruns6_1)), .val (.int (own_vruns6_5 pruns6_1))] [(.ref bnruns6_7)])) _
    jvm_step Xoruns6_19.here [Xoruns6_19.here.top, hx, (hb hby own_d1_191), Xoruns6_19.method', Bd.returns, Value.isRef, FieldType.isReference]
    first | (intro acts; rw [hr _ acts rfl rfl rfl]) | rw [hr _ _ rfl rfl rfl]
    exact Steps.refl _
  · show own_Qruns6 Z pruns6_1 h0 n0 _ Toruns6_19.heap _
    rw [eoruns6_19]
    exact ⟨bnruns6_7, knruns6_7, rfl, Nforuns6_19, ((((((((Keep.refl h0 []).ext Enruns6_7).wr Woruns6_9 (Or.inr sz_bnruns6_7)).wr Woruns6_11 (Or.inr sz_bnruns6_7)).wr Woruns6_13 (Or.inr sz_bnruns6_7)).wr Woruns6_15 (Or.inr sz_bnruns6_7)).wr Woruns6_17 (Or.inr sz_bnruns6_7)).wr Woruns6_19 (Or.inr sz_bnruns6_7)), sz_bnruns6_7, Vworuns6_19⟩
theorem own_d3_0 : decode method_5_code 0 = .ok (.iload_n 0, 1) := by decide +kernel
theorem own_d3_1 : decode method_5_code 1 = .ok (.ifCond .ne 7, 3) := by decide +kernel
theorem own_d3_4 : decode method_5_code 4 = .ok (.iconst 0, 1) := by decide +kernel
theorem own_d3_5 : decode method_5_code 5 = .ok (.newarray .int, 2) := by decide +kernel
theorem own_d3_7 : decode method_5_code 7 = .ok (.areturn, 1) := by decide +kernel
theorem own_efdepths0 (m : MethodId) (pdepths0_1 : Int32) : entryFrame m #[(.int (0 : Int32)), (.int pdepths0_1)] 2 = mkF m 0 #[.val (.int (0 : Int32)), .val (.int pdepths0_1)] [] := by first | (simp [entryFrame, mkF, argsToLocals, Value.category]; done) | rfl
def own_Qdepths0 (Z : State) (pdepths0_1 : Int32) (h0 : Heap) (n0 : Nat) (v : Option Value) (h : Heap) (L : List Loc) : Prop := ∃ (bndepths0_1 : Addr) (kndepths0_1 : ClassId), v = some (.ref bndepths0_1) ∧ Fr n0 L ∧ Keep h0 h [] ∧ h0.size ≤ bndepths0_1 ∧ Arv Z h bndepths0_1 kndepths0_1 .int (0 : Int32) [] (.int (0 : Int32))
set_option maxRecDepth 65536 in
set_option maxHeartbeats 40000000 in
theorem own_rmdepths0 (l : Launch) (Z : State) (a0 : Array Value) (hw : ∀ d ∈ tables_1, d.before a0 Z = true) (ws : List Jvm.Cond) (pdepths0_1 : Int32) (h0 : Heap) (n0 : Nat) (Z0 : n0 ≤ h0.size) :
    MetFree l (⟨"com/example/arborway/arborway/sim/WalkRunningCountPinLaw", "depths", "(II)[I"⟩ : MethodName) (head1 (Jvm.Cond.code (⟨"com/example/arborway/arborway/sim/WalkRunningCountPinLaw", "depths", "(II)[I"⟩ : MethodName) method_5_code 2 (some (.array .int)) :: ws) ({ frames := 0, cells := 1, slots := 0, locals := 0 } : Room)) (fun a U => a = #[(.int (0 : Int32)), (.int pdepths0_1)] ∧ Z.Warmed39 U.vm ∧ U.heap = h0) (fun _ _ _ _ _ => True) (fun _ U o U' => ∃ v L, o = .returned v ∧ own_Qdepths0 Z pdepths0_1 h0 n0 v U'.heap L ∧ FrameEnd U o U' L ({ frames := 0, cells := 1, slots := 0, locals := 0 } : Room).cells ({ frames := 0, cells := 1, slots := 0, locals := 0 } : Room).slots) := by
  refine MetFree.of_bodySF (plainFor_of_name own_pn0) hisR ?_
  intro p e s m args below meth c s₁ Bd hml0 hP hK
  obtain ⟨rfl, hZ, hh⟩ := hP
  have hx := Bd.exec
  have hby := Bd.bytes
  have hml : c.maxLocals = 2 := hml0
  have hown : s.vm.findClass "com/example/arborway/arborway/sim/WalkRunningCountPinLaw" = some m.cls := findClass_of_methodNamed Bd.named
  have hnm := (name_of_methodNamed Bd.named Bd.method).1
  have X0 : Stand p l e ({ frames := 0, cells := 1, slots := 0, locals := 0 } : Room) s m #[(.int (0 : Int32)), (.int pdepths0_1)] below meth c s₁ [] 0 0 := Stand.of_body Bd
  have e0 : s₁.heap = h0 := by rw [← hh, Bd.state]; rfl
  have N0 := Fr.nil n0
  have Zr : h0.size ≤ h0.size := Nat.le_refl _
  have pre0 : ∀ t, Steps p.tables e below (s₁.setTop (mkF m 0 #[.val (.int (0 : Int32)), .val (.int pdepths0_1)] [])) t → Steps p.tables e below (s₁.setTop (entryFrame m #[(.int (0 : Int32)), (.int pdepths0_1)] 2)) t := fun t k => castTop (own_efdepths0 m pdepths0_1) k
  obtain ⟨Tndepths0_1, hndepths0_1, kndepths0_1, Xndepths0_1, endepths0_1, Endepths0_1, Andepths0_1, stndepths0_1⟩ := newP X0 hx hZ (own_W hw 12 rfl) e0 (g := (mkF m 5 #[.val (.int (0 : Int32)), .val (.int pdepths0_1)] [(.int (0 : Int32))])) rfl (hb hby own_d3_5) rfl (by decide) (cap := 0) (by decide) (by decide) (by decide) (by decide)
  obtain ⟨bndepths0_1, gndepths0_1⟩ : ∃ z, z = h0.size := ⟨_, rfl⟩
  rw [← gndepths0_1] at Andepths0_1 stndepths0_1
  have g_bndepths0_1 : n0 ≤ bndepths0_1 := Nat.le_trans Z0 (Nat.le_of_eq gndepths0_1.symm)
  have sz_bndepths0_1 : h0.size ≤ bndepths0_1 := Nat.le_trans Zr (Nat.le_of_eq gndepths0_1.symm)
  have szdepths0_2 : h0.size ≤ hndepths0_1.size := Nat.le_trans Zr Endepths0_1.1
  have V_bndepths0_1 : Arv Z hndepths0_1 bndepths0_1 kndepths0_1 .int (0 : Int32) [] (.int (0 : Int32)) := (Arv.new Andepths0_1 (by decide)).pad (pad_rep [] (.int (0 : Int32)) 0)
  obtain ⟨fs, hr, hrun, hended, hW, hsame⟩ := Xndepths0_1.leave (v := some (.ref bndepths0_1)) (fun h => by rw [Bd.returns] at h; cases h)
  refine ⟨_, _, pre0 _ (?_), hrun, hended, _, _, rfl, ?_, ⟨_, rfl⟩, hW, hsame.mono (by decide) (by decide)⟩
  · show Steps p.tables e below (s₁.setTop (mkF m 0 #[.val (.int (0 : Int32)), .val (.int pdepths0_1)] [])) _
    refine XS.iloadN X0.here hx rfl (hb hby own_d3_0) rfl ?_
    refine XS.ifNo X0.here hx rfl (hb hby own_d3_1) rfl (XT.i0_ne_f (by decide : (0 : Int32) = (0 : Int32))) ?_
    refine XS.iconst X0.here hx rfl (hb hby own_d3_4) ?_
    refine stndepths0_1 _ ?_
    show Steps p.tables e below (Tndepths0_1.setTop (mkF m 7 #[.val (.int (0 : Int32)), .val (.int pdepths0_1)] [(.ref bndepths0_1)])) _
    jvm_step Xndepths0_1.here [Xndepths0_1.here.top, hx, (hb hby own_d3_7), Xndepths0_1.method', Bd.returns, Value.isRef, FieldType.isReference]
    first | (intro acts; rw [hr _ acts rfl rfl rfl]) | rw [hr _ _ rfl rfl rfl]
    exact Steps.refl _
  · show own_Qdepths0 Z pdepths0_1 h0 n0 _ Tndepths0_1.heap _
    rw [endepths0_1]
    exact ⟨bndepths0_1, kndepths0_1, rfl, N0, ((Keep.refl h0 []).ext Endepths0_1), sz_bndepths0_1, V_bndepths0_1⟩
theorem own_pd2 : parseMethodDescriptor "(II)I" = some ⟨[.int, .int], some .int⟩ := by decide +kernel
theorem own_d3_8 : decode method_5_code 8 = .ok (.iload_n 0, 1) := by decide +kernel
theorem own_d3_9 : decode method_5_code 9 = .ok (.iconst 1, 1) := by decide +kernel
theorem own_d3_10 : decode method_5_code 10 = .ok (.if_icmp .ne 15, 3) := by decide +kernel
theorem own_d3_13 : decode method_5_code 13 = .ok (.iconst 1, 1) := by decide +kernel
theorem own_d3_14 : decode method_5_code 14 = .ok (.newarray .int, 2) := by decide +kernel
theorem own_d3_16 : decode method_5_code 16 = .ok (.dup, 1) := by decide +kernel
theorem own_d3_17 : decode method_5_code 17 = .ok (.iconst 0, 1) := by decide +kernel
theorem own_d3_18 : decode method_5_code 18 = .ok (.iload_n 1, 1) := by decide +kernel
theorem own_d3_19 : decode method_5_code 19 = .ok (.iconst 0, 1) := by decide +kernel
theorem own_d3_20 : decode method_5_code 20 = .ok (.invokestatic 13, 3) := by decide +kernel
theorem own_d3_23 : decode method_5_code 23 = .ok (.iastore, 1) := by decide +kernel
theorem own_d3_24 : decode method_5_code 24 = .ok (.areturn, 1) := by decide +kernel
def own_vdepths1_0 (pdepths1_1 : Int32) : Int32 := (own_j9_0 pdepths1_1 (0 : Int32))
theorem own_efdepths1 (m : MethodId) (pdepths1_1 : Int32) : entryFrame m #[(.int (1 : Int32)), (.int pdepths1_1)] 2 = mkF m 0 #[.val (.int (1 : Int32)), .val (.int pdepths1_1)] [] := by first | (simp [entryFrame, mkF, argsToLocals, Value.category]; done) | rfl
def own_Qdepths1 (Z : State) (pdepths1_1 : Int32) (h0 : Heap) (n0 : Nat) (v : Option Value) (h : Heap) (L : List Loc) : Prop := ∃ (bndepths1_1 : Addr) (kndepths1_1 : ClassId), v = some (.ref bndepths1_1) ∧ Fr n0 L ∧ Keep h0 h [] ∧ h0.size ≤ bndepths1_1 ∧ Arv Z h bndepths1_1 kndepths1_1 .int (1 : Int32) [(.int (own_vdepths1_0 pdepths1_1))] (.int (0 : Int32))
set_option maxRecDepth 65536 in
set_option maxHeartbeats 40000000 in
theorem own_rmdepths1 (l : Launch) (Z : State) (a0 : Array Value) (hw : ∀ d ∈ tables_1, d.before a0 Z = true) (ws : List Jvm.Cond) (pdepths1_1 : Int32) (h0 : Heap) (n0 : Nat) (Z0 : n0 ≤ h0.size) :
    MetFree l (⟨"com/example/arborway/arborway/sim/WalkRunningCountPinLaw", "depths", "(II)[I"⟩ : MethodName) (head1 (Jvm.Cond.code (⟨"com/example/arborway/arborway/sim/WalkRunningCountPinLaw", "depths", "(II)[I"⟩ : MethodName) method_5_code 2 (some (.array .int)) :: ws) ({ frames := 2, cells := 1, slots := 1, locals := 29 } : Room)) (fun a U => a = #[(.int (1 : Int32)), (.int pdepths1_1)] ∧ Z.Warmed39 U.vm ∧ U.heap = h0) (fun _ _ _ _ _ => True) (fun _ U o U' => ∃ v L, o = .returned v ∧ own_Qdepths1 Z pdepths1_1 h0 n0 v U'.heap L ∧ FrameEnd U o U' L ({ frames := 2, cells := 1, slots := 1, locals := 29 } : Room).cells ({ frames := 2, cells := 1, slots := 1, locals := 29 } : Room).slots) := by
  refine MetFree.of_bodySF (plainFor_of_name own_pn0) hisR ?_
  intro p e s m args below meth c s₁ Bd hml0 hP hK
  obtain ⟨rfl, hZ, hh⟩ := hP
  have hx := Bd.exec
  have hby := Bd.bytes
  have hml : c.maxLocals = 2 := hml0
  have hown : s.vm.findClass "com/example/arborway/arborway/sim/WalkRunningCountPinLaw" = some m.cls := findClass_of_methodNamed Bd.named
  have hnm := (name_of_methodNamed Bd.named Bd.method).1
  have X0 : Stand p l e ({ frames := 2, cells := 1, slots := 1, locals := 29 } : Room) s m #[(.int (1 : Int32)), (.int pdepths1_1)] below meth c s₁ [] 0 0 := Stand.of_body Bd
  have e0 : s₁.heap = h0 := by rw [← hh, Bd.state]; rfl
  have N0 := Fr.nil n0
  have Zr : h0.size ≤ h0.size := Nat.le_refl _
  have pre0 : ∀ t, Steps p.tables e below (s₁.setTop (mkF m 0 #[.val (.int (1 : Int32)), .val (.int pdepths1_1)] [])) t → Steps p.tables e below (s₁.setTop (entryFrame m #[(.int (1 : Int32)), (.int pdepths1_1)] 2)) t := fun t k => castTop (own_efdepths1 m pdepths1_1) k
  obtain ⟨Tndepths1_1, hndepths1_1, kndepths1_1, Xndepths1_1, endepths1_1, Endepths1_1, Andepths1_1, stndepths1_1⟩ := newP X0 hx hZ (own_W hw 12 rfl) e0 (g := (mkF m 14 #[.val (.int (1 : Int32)), .val (.int pdepths1_1)] [(.int (1 : Int32))])) rfl (hb hby own_d3_14) rfl (by decide) (cap := 1) (by decide) (by decide) (by decide) (by decide)
  obtain ⟨bndepths1_1, gndepths1_1⟩ : ∃ z, z = h0.size := ⟨_, rfl⟩
  rw [← gndepths1_1] at Andepths1_1 stndepths1_1
  have g_bndepths1_1 : n0 ≤ bndepths1_1 := Nat.le_trans Z0 (Nat.le_of_eq gndepths1_1.symm)
  have sz_bndepths1_1 : h0.size ≤ bndepths1_1 := Nat.le_trans Zr (Nat.le_of_eq gndepths1_1.symm)
  have szdepths1_2 : h0.size ≤ hndepths1_1.size := Nat.le_trans Zr Endepths1_1.1
  have V_bndepths1_1 : Arv Z hndepths1_1 bndepths1_1 kndepths1_1 .int (1 : Int32) [(.int (0 : Int32))] (.int (0 : Int32)) := (Arv.new Andepths1_1 (by decide)).pad (pad_rep [] (.int (0 : Int32)) 1)
  obtain ⟨_, _, ⟨Tkdepths1_3, Lkdepths1_3, kkdepths1_3, nkdepths1_3⟩, -, Xkdepths1_3, ⟨Lckdepths1_3, hQkdepths1_3, lkdepths1_3, ykdepths1_3, zkdepths1_3⟩, stkdepths1_3⟩ := Jvm.LawKit.callS Xndepths1_1 hx (y := (⟨"com/example/arborway/arborway/sim/WalkRunningCountPinLaw", "dep", "(II)I"⟩ : MethodName)) hown (mvT hZ (own_W hw 44 rfl)) (mvT hZ (own_W hw 45 rfl)) (mvT hZ (own_W hw 3 rfl)) (mvT hZ (own_W hw 46 rfl)) (by decide) (backOf (W := 3) (own_rm9 l Z a0 hw [] pdepths1_1 (0 : Int32) hndepths1_1 n0 (Nat.le_trans Z0 szdepths1_2)) hZ (own_W hw 46 rfl) (own_W hw 3 rfl) (by decide) (by decide)) (g := (mkF m 20 #[.val (.int (1 : Int32)), .val (.int pdepths1_1)] [(.int (0 : Int32)), (.int pdepths1_1), (.int (0 : Int32)), (.ref bndepths1_1), (.ref bndepths1_1)])) rfl (by rw [hml]; rfl) (argsL := [(.int pdepths1_1), (.int (0 : Int32))]) (rest := [(.int (0 : Int32)), (.ref bndepths1_1), (.ref bndepths1_1)]) (lenOf own_pd2 rfl) rfl (by show 2 * 0 + _ ≤ _; exact Nat.le_of_eq rfl) (hb hby own_d3_20) (fun _ _ => ⟨rfl, endepths1_1, (by decide : 1 + 0 ≤ _), (by decide : 1 + 0 ≤ _)⟩)
  dsimp only [Pt.U, Pt.locs, Pt.cells, Pt.slots] at Xkdepths1_3 lkdepths1_3 ykdepths1_3 zkdepths1_3 stkdepths1_3 hQkdepths1_3
  replace lkdepths1_3 := lkdepths1_3.symm; replace ykdepths1_3 := ykdepths1_3.symm; replace zkdepths1_3 := zkdepths1_3.symm; subst lkdepths1_3 ykdepths1_3 zkdepths1_3
  obtain ⟨rfl, Nkdepths1_3q, ekdepths1_3⟩ := hQkdepths1_3
  have Nkdepths1_3 := Fr.app N0 Nkdepths1_3q
  have Oodepths1_4 := V_bndepths1_1
  obtain ⟨clodepths1_4, Arodepths1_4, qodepths1_4, Sodepths1_4, Nodepths1_4, Hodepths1_4, Godepths1_4⟩ := Oodepths1_4
  have hinodepths1_4 : ¬ ((0 : Int32) < 0 ∨ clodepths1_4.slots.size ≤ ((0 : Int32)).toNatClampNeg) := inb_of Sodepths1_4 ⟨by decide, by decide⟩
  obtain ⟨Todepths1_4, hodepths1_4, Xodepths1_4, eodepths1_4, Wodepths1_4, stodepths1_4⟩ := stI Xkdepths1_3 hx hZ ekdepths1_3 Arodepths1_4 (j := (0 : Int32)) hinodepths1_4 (g := (mkF m 23 #[.val (.int (1 : Int32)), .val (.int pdepths1_1)] [(.int (own_j9_0 pdepths1_1 (0 : Int32))), (.int (0 : Int32)), (.ref bndepths1_1), (.ref bndepths1_1)])) rfl rfl (hb hby own_d3_23)
  have Vwodepths1_4 : Arv Z hodepths1_4 bndepths1_1 kndepths1_1 .int (1 : Int32) [(.int (own_vdepths1_0 pdepths1_1))] (.int (0 : Int32)) := Arv.set Arodepths1_4 qodepths1_4 Sodepths1_4 Nodepths1_4 Hodepths1_4 Godepths1_4 rfl Wodepths1_4 0 rfl (Nat.le_of_ble_eq_true rfl)
  have szdepths1_5 : h0.size ≤ hodepths1_4.size := Nat.le_trans szdepths1_2 (Nat.le_of_eq Wodepths1_4.size.symm)
  have Nfodepths1_4 := Fr.snoc Xodepths1_4 Nkdepths1_3 g_bndepths1_1
  obtain ⟨fs, hr, hrun, hended, hW, hsame⟩ := Xodepths1_4.leave (v := some (.ref bndepths1_1)) (fun h => by rw [Bd.returns] at h; cases h)
  refine ⟨_, _, pre0 _ (?_), hrun, hended, _, _, rfl, ?_, ⟨_, rfl⟩, hW, hsame.mono (by decide) (by decide)⟩
  · show Steps p.tables e below (s₁.setTop (mkF m 0 #[.val (.int (1 : Int32)), .val (.int pdepths1_1)] [])) _
    refine XS.iloadN X0.here hx rfl (hb hby own_d3_0) rfl ?_
    refine XS.ifYes X0.here hx rfl (pc0 := 1) (pc' := 8) rfl (hb hby own_d3_1) rfl (XT.i0_ne_t (by decide : ¬ ((1 : Int32) = (0 : Int32)))) (by decide) (by decide) ?_
    refine XS.iloadN X0.here hx rfl (hb hby own_d3_8) rfl ?_
    refine XS.iconst X0.here hx rfl (hb hby own_d3_9) ?_
    refine XS.icmpNo X0.here hx rfl (hb hby own_d3_10) rfl (XT.ii_ne_f (by decide : (1 : Int32) = (1 : Int32))) ?_
    refine XS.iconst X0.here hx rfl (hb hby own_d3_13) ?_
    refine stndepths1_1 _ ?_
    show Steps p.tables e below (Tndepths1_1.setTop (mkF m 16 #[.val (.int (1 : Int32)), .val (.int pdepths1_1)] [(.ref bndepths1_1)])) _
    refine XS.dup Xndepths1_1.here hx rfl (hb hby own_d3_16) rfl rfl ?_
    refine XS.iconst Xndepths1_1.here hx rfl (hb hby own_d3_17) ?_
    refine XS.iloadN Xndepths1_1.here hx rfl (hb hby own_d3_18) rfl ?_
    refine XS.iconst Xndepths1_1.here hx rfl (hb hby own_d3_19) ?_
    refine stkdepths1_3 _ ?_
    show Steps p.tables e below (Tkdepths1_3.setTop (mkF m 23 #[.val (.int (1 : Int32)), .val (.int pdepths1_1)] [(.int (own_j9_0 pdepths1_1 (0 : Int32))), (.int (0 : Int32)), (.ref bndepths1_1), (.ref bndepths1_1)])) _
    refine stodepths1_4 _ ?_
    show Steps p.tables e below (Todepths1_4.setTop (mkF m 24 #[.val (.int (1 : Int32)), .val (.int pdepths1_1)] [(.ref bndepths1_1)])) _
    jvm_step Xodepths1_4.here [Xodepths1_4.here.top, hx, (hb hby own_d3_24), Xodepths1_4.method', Bd.returns, Value.isRef, FieldType.isReference]
    first | (intro acts; rw [hr _ acts rfl rfl rfl]) | rw [hr _ _ rfl rfl rfl]
    exact Steps.refl _
  · show own_Qdepths1 Z pdepths1_1 h0 n0 _ Todepths1_4.heap _
    rw [eodepths1_4]
    exact ⟨bndepths1_1, kndepths1_1, rfl, Nfodepths1_4, (((Keep.refl h0 []).ext Endepths1_1).wr Wodepths1_4 (Or.inr sz_bndepths1_1)), sz_bndepths1_1, Vwodepths1_4⟩
theorem own_d3_25 : decode method_5_code 25 = .ok (.iload_n 0, 1) := by decide +kernel
theorem own_d3_26 : decode method_5_code 26 = .ok (.iconst 2, 1) := by decide +kernel
theorem own_d3_27 : decode method_5_code 27 = .ok (.if_icmp .ne 23, 3) := by decide +kernel
theorem own_d3_30 : decode method_5_code 30 = .ok (.iconst 2, 1) := by decide +kernel
theorem own_d3_31 : decode method_5_code 31 = .ok (.newarray .int, 2) := by decide +kernel
theorem own_d3_33 : decode method_5_code 33 = .ok (.dup, 1) := by decide +kernel
theorem own_d3_34 : decode method_5_code 34 = .ok (.iconst 0, 1) := by decide +kernel
theorem own_d3_35 : decode method_5_code 35 = .ok (.iload_n 1, 1) := by decide +kernel
theorem own_d3_36 : decode method_5_code 36 = .ok (.iconst 0, 1) := by decide +kernel
theorem own_d3_37 : decode method_5_code 37 = .ok (.invokestatic 13, 3) := by decide +kernel
theorem own_d3_40 : decode method_5_code 40 = .ok (.iastore, 1) := by decide +kernel
theorem own_d3_41 : decode method_5_code 41 = .ok (.dup, 1) := by decide +kernel
theorem own_d3_42 : decode method_5_code 42 = .ok (.iconst 1, 1) := by decide +kernel
theorem own_d3_43 : decode method_5_code 43 = .ok (.iload_n 1, 1) := by decide +kernel
theorem own_d3_44 : decode method_5_code 44 = .ok (.iconst 1, 1) := by decide +kernel
theorem own_d3_45 : decode method_5_code 45 = .ok (.invokestatic 13, 3) := by decide +kernel
theorem own_d3_48 : decode method_5_code 48 = .ok (.iastore, 1) := by decide +kernel
theorem own_d3_49 : decode method_5_code 49 = .ok (.areturn, 1) := by decide +kernel
def own_vdepths2_0 (pdepths2_1 : Int32) : Int32 := (own_j9_0 pdepths2_1 (0 : Int32))
def own_vdepths2_1 (pdepths2_1 : Int32) : Int32 := (own_j9_0 pdepths2_1 (1 : Int32))
theorem own_efdepths2 (m : MethodId) (pdepths2_1 : Int32) : entryFrame m #[(.int (2 : Int32)), (.int pdepths2_1)] 2 = mkF m 0 #[.val (.int (2 : Int32)), .val (.int pdepths2_1)] [] := by first | (simp [entryFrame, mkF, argsToLocals, Value.category]; done) | rfl
def own_Qdepths2 (Z : State) (pdepths2_1 : Int32) (h0 : Heap) (n0 : Nat) (v : Option Value) (h : Heap) (L : List Loc) : Prop := ∃ (bndepths2_1 : Addr) (kndepths2_1 : ClassId), v = some (.ref bndepths2_1) ∧ Fr n0 L ∧ Keep h0 h [] ∧ h0.size ≤ bndepths2_1 ∧ Arv Z h bndepths2_1 kndepths2_1 .int (2 : Int32) [(.int (own_vdepths2_0 pdepths2_1)), (.int (own_vdepths2_1 pdepths2_1))] (.int (0 : Int32))
set_option maxRecDepth 65536 in
set_option maxHeartbeats 40000000 in
theorem own_rmdepths2 (l : Launch) (Z : State) (a0 : Array Value) (hw : ∀ d ∈ tables_1, d.before a0 Z = true) (ws : List Jvm.Cond) (pdepths2_1 : Int32) (h0 : Heap) (n0 : Nat) (Z0 : n0 ≤ h0.size) :
    MetFree l (⟨"com/example/arborway/arborway/sim/WalkRunningCountPinLaw", "depths", "(II)[I"⟩ : MethodName) (head1 (Jvm.Cond.code (⟨"com/example/arborway/arborway/sim/WalkRunningCountPinLaw", "depths", "(II)[I"⟩ : MethodName) method_5_code 2 (some (.array .int)) :: ws) ({ frames := 2, cells := 1, slots := 2, locals := 29 } : Room)) (fun a U => a = #[(.int (2 : Int32)), (.int pdepths2_1)] ∧ Z.Warmed39 U.vm ∧ U.heap = h0) (fun _ _ _ _ _ => True) (fun _ U o U' => ∃ v L, o = .returned v ∧ own_Qdepths2 Z pdepths2_1 h0 n0 v U'.heap L ∧ FrameEnd U o U' L ({ frames := 2, cells := 1, slots := 2, locals := 29 } : Room).cells ({ frames := 2, cells := 1, slots := 2, locals := 29 } : Room).slots) := by
  refine MetFree.of_bodySF (plainFor_of_name own_pn0) hisR ?_
  intro p e s m args below meth c s₁ Bd hml0 hP hK
  obtain ⟨rfl, hZ, hh⟩ := hP
  have hx := Bd.exec
  have hby := Bd.bytes
  have hml : c.maxLocals = 2 := hml0
  have hown : s.vm.findClass "com/example/arborway/arborway/sim/WalkRunningCountPinLaw" = some m.cls := findClass_of_methodNamed Bd.named
  have hnm := (name_of_methodNamed Bd.named Bd.method).1
  have X0 : Stand p l e ({ frames := 2, cells := 1, slots := 2, locals := 29 } : Room) s m #[(.int (2 : Int32)), (.int pdepths2_1)] below meth c s₁ [] 0 0 := Stand.of_body Bd
  have e0 : s₁.heap = h0 := by rw [← hh, Bd.state]; rfl
  have N0 := Fr.nil n0
  have Zr : h0.size ≤ h0.size := Nat.le_refl _
  have pre0 : ∀ t, Steps p.tables e below (s₁.setTop (mkF m 0 #[.val (.int (2 : Int32)), .val (.int pdepths2_1)] [])) t → Steps p.tables e below (s₁.setTop (entryFrame m #[(.int (2 : Int32)), (.int pdepths2_1)] 2)) t := fun t k => castTop (own_efdepths2 m pdepths2_1) k
  obtain ⟨Tndepths2_1, hndepths2_1, kndepths2_1, Xndepths2_1, endepths2_1, Endepths2_1, Andepths2_1, stndepths2_1⟩ := newP X0 hx hZ (own_W hw 12 rfl) e0 (g := (mkF m 31 #[.val (.int (2 : Int32)), .val (.int pdepths2_1)] [(.int (2 : Int32))])) rfl (hb hby own_d3_31) rfl (by decide) (cap := 2) (by decide) (by decide) (by decide) (by decide)
  obtain ⟨bndepths2_1, gndepths2_1⟩ : ∃ z, z = h0.size := ⟨_, rfl⟩
  rw [← gndepths2_1] at Andepths2_1 stndepths2_1
  have g_bndepths2_1 : n0 ≤ bndepths2_1 := Nat.le_trans Z0 (Nat.le_of_eq gndepths2_1.symm)
  have sz_bndepths2_1 : h0.size ≤ bndepths2_1 := Nat.le_trans Zr (Nat.le_of_eq gndepths2_1.symm)
  have szdepths2_2 : h0.size ≤ hndepths2_1.size := Nat.le_trans Zr Endepths2_1.1
  have V_bndepths2_1 : Arv Z hndepths2_1 bndepths2_1 kndepths2_1 .int (2 : Int32) [(.int (0 : Int32)), (.int (0 : Int32))] (.int (0 : Int32)) := (Arv.new Andepths2_1 (by decide)).pad (pad_rep [] (.int (0 : Int32)) 2)
  obtain ⟨_, _, ⟨Tkdepths2_3, Lkdepths2_3, kkdepths2_3, nkdepths2_3⟩, -, Xkdepths2_3, ⟨Lckdepths2_3, hQkdepths2_3, lkdepths2_3, ykdepths2_3, zkdepths2_3⟩, stkdepths2_3⟩ := Jvm.LawKit.callS Xndepths2_1 hx (y := (⟨"com/example/arborway/arborway/sim/WalkRunningCountPinLaw", "dep", "(II)I"⟩ : MethodName)) hown (mvT hZ (own_W hw 44 rfl)) (mvT hZ (own_W hw 45 rfl)) (mvT hZ (own_W hw 3 rfl)) (mvT hZ (own_W hw 46 rfl)) (by decide) (backOf (W := 3) (own_rm9 l Z a0 hw [] pdepths2_1 (0 : Int32) hndepths2_1 n0 (Nat.le_trans Z0 szdepths2_2)) hZ (own_W hw 46 rfl) (own_W hw 3 rfl) (by decide) (by decide)) (g := (mkF m 37 #[.val (.int (2 : Int32)), .val (.int pdepths2_1)] [(.int (0 : Int32)), (.int pdepths2_1), (.int (0 : Int32)), (.ref bndepths2_1), (.ref bndepths2_1)])) rfl (by rw [hml]; rfl) (argsL := [(.int pdepths2_1), (.int (0 : Int32))]) (rest := [(.int (0 : Int32)), (.ref bndepths2_1), (.ref bndepths2_1)]) (lenOf own_pd2 rfl) rfl (by show 2 * 0 + _ ≤ _; exact Nat.le_of_eq rfl) (hb hby own_d3_37) (fun _ _ => ⟨rfl, endepths2_1, (by decide : 1 + 0 ≤ _), (by decide : 2 + 0 ≤ _)⟩)
  dsimp only [Pt.U, Pt.locs, Pt.cells, Pt.slots] at Xkdepths2_3 lkdepths2_3 ykdepths2_3 zkdepths2_3 stkdepths2_3 hQkdepths2_3
  replace lkdepths2_3 := lkdepths2_3.symm; replace ykdepths2_3 := ykdepths2_3.symm; replace zkdepths2_3 := zkdepths2_3.symm; subst lkdepths2_3 ykdepths2_3 zkdepths2_3
  obtain ⟨rfl, Nkdepths2_3q, ekdepths2_3⟩ := hQkdepths2_3
  have Nkdepths2_3 := Fr.app N0 Nkdepths2_3q
  have Oodepths2_4 := V_bndepths2_1
  obtain ⟨clodepths2_4, Arodepths2_4, qodepths2_4, Sodepths2_4, Nodepths2_4, Hodepths2_4, Godepths2_4⟩ := Oodepths2_4
  have hinodepths2_4 : ¬ ((0 : Int32) < 0 ∨ clodepths2_4.slots.size ≤ ((0 : Int32)).toNatClampNeg) := inb_of Sodepths2_4 ⟨by decide, by decide⟩
  obtain ⟨Todepths2_4, hodepths2_4, Xodepths2_4, eodepths2_4, Wodepths2_4, stodepths2_4⟩ := stI Xkdepths2_3 hx hZ ekdepths2_3 Arodepths2_4 (j := (0 : Int32)) hinodepths2_4 (g := (mkF m 40 #[.val (.int (2 : Int32)), .val (.int pdepths2_1)] [(.int (own_j9_0 pdepths2_1 (0 : Int32))), (.int (0 : Int32)), (.ref bndepths2_1), (.ref bndepths2_1)])) rfl rfl (hb hby own_d3_40)
  have Vwodepths2_4 : Arv Z hodepths2_4 bndepths2_1 kndepths2_1 .int (2 : Int32) [(.int (own_vdepths2_0 pdepths2_1)), (.int (0 : Int32))] (.int (0 : Int32)) := Arv.set Arodepths2_4 qodepths2_4 Sodepths2_4 Nodepths2_4 Hodepths2_4 Godepths2_4 rfl Wodepths2_4 0 rfl (Nat.le_of_ble_eq_true rfl)
  have szdepths2_5 : h0.size ≤ hodepths2_4.size := Nat.le_trans szdepths2_2 (Nat.le_of_eq Wodepths2_4.size.symm)
  have Nfodepths2_4 := Fr.snoc Xodepths2_4 Nkdepths2_3 g_bndepths2_1
  obtain ⟨_, _, ⟨Tkdepths2_6, Lkdepths2_6, kkdepths2_6, nkdepths2_6⟩, -, Xkdepths2_6, ⟨Lckdepths2_6, hQkdepths2_6, lkdepths2_6, ykdepths2_6, zkdepths2_6⟩, stkdepths2_6⟩ := Jvm.LawKit.callS Xodepths2_4 hx (y := (⟨"com/example/arborway/arborway/sim/WalkRunningCountPinLaw", "dep", "(II)I"⟩ : MethodName)) hown (mvT hZ (own_W hw 44 rfl)) (mvT hZ (own_W hw 45 rfl)) (mvT hZ (own_W hw 3 rfl)) (mvT hZ (own_W hw 46 rfl)) (by decide) (backOf (W := 3) (own_rm9 l Z a0 hw [] pdepths2_1 (1 : Int32) hodepths2_4 n0 (Nat.le_trans Z0 szdepths2_5)) hZ (own_W hw 46 rfl) (own_W hw 3 rfl) (by decide) (by decide)) (g := (mkF m 45 #[.val (.int (2 : Int32)), .val (.int pdepths2_1)] [(.int (1 : Int32)), (.int pdepths2_1), (.int (1 : Int32)), (.ref bndepths2_1), (.ref bndepths2_1)])) rfl (by rw [hml]; rfl) (argsL := [(.int pdepths2_1), (.int (1 : Int32))]) (rest := [(.int (1 : Int32)), (.ref bndepths2_1), (.ref bndepths2_1)]) (lenOf own_pd2 rfl) rfl (by show 2 * 0 + _ ≤ _; exact Nat.le_of_eq rfl) (hb hby own_d3_45) (fun _ _ => ⟨rfl, eodepths2_4, (by decide : 1 + 0 ≤ _), (by decide : 2 + 0 ≤ _)⟩)
  dsimp only [Pt.U, Pt.locs, Pt.cells, Pt.slots] at Xkdepths2_6 lkdepths2_6 ykdepths2_6 zkdepths2_6 stkdepths2_6 hQkdepths2_6
  replace lkdepths2_6 := lkdepths2_6.symm; replace ykdepths2_6 := ykdepths2_6.symm; replace zkdepths2_6 := zkdepths2_6.symm; subst lkdepths2_6 ykdepths2_6 zkdepths2_6
  obtain ⟨rfl, Nkdepths2_6q, ekdepths2_6⟩ := hQkdepths2_6
  have Nkdepths2_6 := Fr.app Nfodepths2_4 Nkdepths2_6q
  have Oodepths2_7 := Vwodepths2_4
  obtain ⟨clodepths2_7, Arodepths2_7, qodepths2_7, Sodepths2_7, Nodepths2_7, Hodepths2_7, Godepths2_7⟩ := Oodepths2_7
  have hinodepths2_7 : ¬ ((1 : Int32) < 0 ∨ clodepths2_7.slots.size ≤ ((1 : Int32)).toNatClampNeg) := inb_of Sodepths2_7 ⟨by decide, by decide⟩
  obtain ⟨Todepths2_7, hodepths2_7, Xodepths2_7, eodepths2_7, Wodepths2_7, stodepths2_7⟩ := stI Xkdepths2_6 hx hZ ekdepths2_6 Arodepths2_7 (j := (1 : Int32)) hinodepths2_7 (g := (mkF m 48 #[.val (.int (2 : Int32)), .val (.int pdepths2_1)] [(.int (own_j9_0 pdepths2_1 (1 : Int32))), (.int (1 : Int32)), (.ref bndepths2_1), (.ref bndepths2_1)])) rfl rfl (hb hby own_d3_48)
  have Vwodepths2_7 : Arv Z hodepths2_7 bndepths2_1 kndepths2_1 .int (2 : Int32) [(.int (own_vdepths2_0 pdepths2_1)), (.int (own_vdepths2_1 pdepths2_1))] (.int (0 : Int32)) := Arv.set Arodepths2_7 qodepths2_7 Sodepths2_7 Nodepths2_7 Hodepths2_7 Godepths2_7 rfl Wodepths2_7 1 rfl (Nat.le_of_ble_eq_true rfl)
  have szdepths2_8 : h0.size ≤ hodepths2_7.size := Nat.le_trans szdepths2_5 (Nat.le_of_eq Wodepths2_7.size.symm)
  have Nfodepths2_7 := Fr.snoc Xodepths2_7 Nkdepths2_6 g_bndepths2_1
  obtain ⟨fs, hr, hrun, hended, hW, hsame⟩ := Xodepths2_7.leave (v := some (.ref bndepths2_1)) (fun h => by rw [Bd.returns] at h; cases h)
  refine ⟨_, _, pre0 _ (?_), hrun, hended, _, _, rfl, ?_, ⟨_, rfl⟩, hW, hsame.mono (by decide) (by decide)⟩
  · show Steps p.tables e below (s₁.setTop (mkF m 0 #[.val (.int (2 : Int32)), .val (.int pdepths2_1)] [])) _
    refine XS.iloadN X0.here hx rfl (hb hby own_d3_0) rfl ?_
    refine XS.ifYes X0.here hx rfl (pc0 := 1) (pc' := 8) rfl (hb hby own_d3_1) rfl (XT.i0_ne_t (by decide : ¬ ((2 : Int32) = (0 : Int32)))) (by decide) (by decide) ?_
    refine XS.iloadN X0.here hx rfl (hb hby own_d3_8) rfl ?_
    refine XS.iconst X0.here hx rfl (hb hby own_d3_9) ?_
    refine XS.icmpYes X0.here hx rfl (pc0 := 10) (pc' := 25) rfl (hb hby own_d3_10) rfl (XT.ii_ne_t (by decide : ¬ ((2 : Int32) = (1 : Int32)))) (by decide) (by decide) ?_
    refine XS.iloadN X0.here hx rfl (hb hby own_d3_25) rfl ?_
    refine XS.iconst X0.here hx rfl (hb hby own_d3_26) ?_
    refine XS.icmpNo X0.here hx rfl (hb hby own_d3_27) rfl (XT.ii_ne_f (by decide : (2 : Int32) = (2 : Int32))) ?_
    refine XS.iconst X0.here hx rfl (hb hby own_d3_30) ?_
    refine stndepths2_1 _ ?_
    show Steps p.tables e below (Tndepths2_1.setTop (mkF m 33 #[.val (.int (2 : Int32)), .val (.int pdepths2_1)] [(.ref bndepths2_1)])) _
    refine XS.dup Xndepths2_1.here hx rfl (hb hby own_d3_33) rfl rfl ?_
    refine XS.iconst Xndepths2_1.here hx rfl (hb hby own_d3_34) ?_
    refine XS.iloadN Xndepths2_1.here hx rfl (hb hby own_d3_35) rfl ?_
    refine XS.iconst Xndepths2_1.here hx rfl (hb hby own_d3_36) ?_
    refine stkdepths2_3 _ ?_
    show Steps p.tables e below (Tkdepths2_3.setTop (mkF m 40 #[.val (.int (2 : Int32)), .val (.int pdepths2_1)] [(.int (own_j9_0 pdepths2_1 (0 : Int32))), (.int (0 : Int32)), (.ref bndepths2_1), (.ref bndepths2_1)])) _
    refine stodepths2_4 _ ?_
    show Steps p.tables e below (Todepths2_4.setTop (mkF m 41 #[.val (.int (2 : Int32)), .val (.int pdepths2_1)] [(.ref bndepths2_1)])) _
    refine XS.dup Xodepths2_4.here hx rfl (hb hby own_d3_41) rfl rfl ?_
    refine XS.iconst Xodepths2_4.here hx rfl (hb hby own_d3_42) ?_
    refine XS.iloadN Xodepths2_4.here hx rfl (hb hby own_d3_43) rfl ?_
    refine XS.iconst Xodepths2_4.here hx rfl (hb hby own_d3_44) ?_
    refine stkdepths2_6 _ ?_
    show Steps p.tables e below (Tkdepths2_6.setTop (mkF m 48 #[.val (.int (2 : Int32)), .val (.int pdepths2_1)] [(.int (own_j9_0 pdepths2_1 (1 : Int32))), (.int (1 : Int32)), (.ref bndepths2_1), (.ref bndepths2_1)])) _
    refine stodepths2_7 _ ?_
    show Steps p.tables e below (Todepths2_7.setTop (mkF m 49 #[.val (.int (2 : Int32)), .val (.int pdepths2_1)] [(.ref bndepths2_1)])) _
    jvm_step Xodepths2_7.here [Xodepths2_7.here.top, hx, (hb hby own_d3_49), Xodepths2_7.method', Bd.returns, Value.isRef, FieldType.isReference]
    first | (intro acts; rw [hr _ acts rfl rfl rfl]) | rw [hr _ _ rfl rfl rfl]
    exact Steps.refl _
  · show own_Qdepths2 Z pdepths2_1 h0 n0 _ Todepths2_7.heap _
    rw [eodepths2_7]
    exact ⟨bndepths2_1, kndepths2_1, rfl, Nfodepths2_7, ((((Keep.refl h0 []).ext Endepths2_1).wr Wodepths2_4 (Or.inr sz_bndepths2_1)).wr Wodepths2_7 (Or.inr sz_bndepths2_1)), sz_bndepths2_1, Vwodepths2_7⟩
theorem own_d3_50 : decode method_5_code 50 = .ok (.iload_n 0, 1) := by decide +kernel
theorem own_d3_51 : decode method_5_code 51 = .ok (.iconst 3, 1) := by decide +kernel
theorem own_d3_52 : decode method_5_code 52 = .ok (.if_icmp .ne 31, 3) := by decide +kernel
theorem own_d3_55 : decode method_5_code 55 = .ok (.iconst 3, 1) := by decide +kernel
theorem own_d3_56 : decode method_5_code 56 = .ok (.newarray .int, 2) := by decide +kernel
theorem own_d3_58 : decode method_5_code 58 = .ok (.dup, 1) := by decide +kernel
theorem own_d3_59 : decode method_5_code 59 = .ok (.iconst 0, 1) := by decide +kernel
theorem own_d3_60 : decode method_5_code 60 = .ok (.iload_n 1, 1) := by decide +kernel
theorem own_d3_61 : decode method_5_code 61 = .ok (.iconst 0, 1) := by decide +kernel
theorem own_d3_62 : decode method_5_code 62 = .ok (.invokestatic 13, 3) := by decide +kernel
theorem own_d3_65 : decode method_5_code 65 = .ok (.iastore, 1) := by decide +kernel
theorem own_d3_66 : decode method_5_code 66 = .ok (.dup, 1) := by decide +kernel
theorem own_d3_67 : decode method_5_code 67 = .ok (.iconst 1, 1) := by decide +kernel
theorem own_d3_68 : decode method_5_code 68 = .ok (.iload_n 1, 1) := by decide +kernel
theorem own_d3_69 : decode method_5_code 69 = .ok (.iconst 1, 1) := by decide +kernel
theorem own_d3_70 : decode method_5_code 70 = .ok (.invokestatic 13, 3) := by decide +kernel
theorem own_d3_73 : decode method_5_code 73 = .ok (.iastore, 1) := by decide +kernel
theorem own_d3_74 : decode method_5_code 74 = .ok (.dup, 1) := by decide +kernel
theorem own_d3_75 : decode method_5_code 75 = .ok (.iconst 2, 1) := by decide +kernel
theorem own_d3_76 : decode method_5_code 76 = .ok (.iload_n 1, 1) := by decide +kernel
theorem own_d3_77 : decode method_5_code 77 = .ok (.iconst 2, 1) := by decide +kernel
theorem own_d3_78 : decode method_5_code 78 = .ok (.invokestatic 13, 3) := by decide +kernel
theorem own_d3_81 : decode method_5_code 81 = .ok (.iastore, 1) := by decide +kernel
theorem own_d3_82 : decode method_5_code 82 = .ok (.areturn, 1) := by decide +kernel
def own_vdepths3_0 (pdepths3_1 : Int32) : Int32 := (own_j9_0 pdepths3_1 (0 : Int32))
def own_vdepths3_1 (pdepths3_1 : Int32) : Int32 := (own_j9_0 pdepths3_1 (1 : Int32))
def own_vdepths3_2 (pdepths3_1 : Int32) : Int32 := (own_j9_0 pdepths3_1 (2 : Int32))
theorem own_efdepths3 (m : MethodId) (pdepths3_1 : Int32) : entryFrame m #[(.int (3 : Int32)), (.int pdepths3_1)] 2 = mkF m 0 #[.val (.int (3 : Int32)), .val (.int pdepths3_1)] [] := by first | (simp [entryFrame, mkF, argsToLocals, Value.category]; done) | rfl
def own_Qdepths3 (Z : State) (pdepths3_1 : Int32) (h0 : Heap) (n0 : Nat) (v : Option Value) (h : Heap) (L : List Loc) : Prop := ∃ (bndepths3_1 : Addr) (kndepths3_1 : ClassId), v = some (.ref bndepths3_1) ∧ Fr n0 L ∧ Keep h0 h [] ∧ h0.size ≤ bndepths3_1 ∧ Arv Z h bndepths3_1 kndepths3_1 .int (3 : Int32) [(.int (own_vdepths3_0 pdepths3_1)), (.int (own_vdepths3_1 pdepths3_1)), (.int (own_vdepths3_2 pdepths3_1))] (.int (0 : Int32))
set_option maxRecDepth 65536 in
set_option maxHeartbeats 40000000 in
theorem own_rmdepths3 (l : Launch) (Z : State) (a0 : Array Value) (hw : ∀ d ∈ tables_1, d.before a0 Z = true) (ws : List Jvm.Cond) (pdepths3_1 : Int32) (h0 : Heap) (n0 : Nat) (Z0 : n0 ≤ h0.size) :
    MetFree l (⟨"com/example/arborway/arborway/sim/WalkRunningCountPinLaw", "depths", "(II)[I"⟩ : MethodName) (head1 (Jvm.Cond.code (⟨"com/example/arborway/arborway/sim/WalkRunningCountPinLaw", "depths", "(II)[I"⟩ : MethodName) method_5_code 2 (some (.array .int)) :: ws) ({ frames := 2, cells := 1, slots := 3, locals := 29 } : Room)) (fun a U => a = #[(.int (3 : Int32)), (.int pdepths3_1)] ∧ Z.Warmed39 U.vm ∧ U.heap = h0) (fun _ _ _ _ _ => True) (fun _ U o U' => ∃ v L, o = .returned v ∧ own_Qdepths3 Z pdepths3_1 h0 n0 v U'.heap L ∧ FrameEnd U o U' L ({ frames := 2, cells := 1, slots := 3, locals := 29 } : Room).cells ({ frames := 2, cells := 1, slots := 3, locals := 29 } : Room).slots) := by
  refine MetFree.of_bodySF (plainFor_of_name own_pn0) hisR ?_
  intro p e s m args below meth c s₁ Bd hml0 hP hK
  obtain ⟨rfl, hZ, hh⟩ := hP
  have hx := Bd.exec
  have hby := Bd.bytes
  have hml : c.maxLocals = 2 := hml0
  have hown : s.vm.findClass "com/example/arborway/arborway/sim/WalkRunningCountPinLaw" = some m.cls := findClass_of_methodNamed Bd.named
  have hnm := (name_of_methodNamed Bd.named Bd.method).1
  have X0 : Stand p l e ({ frames := 2, cells := 1, slots := 3, locals := 29 } : Room) s m #[(.int (3 : Int32)), (.int pdepths3_1)] below meth c s₁ [] 0 0 := Stand.of_body Bd
  have e0 : s₁.heap = h0 := by rw [← hh, Bd.state]; rfl
  have N0 := Fr.nil n0
  have Zr : h0.size ≤ h0.size := Nat.le_refl _
  have pre0 : ∀ t, Steps p.tables e below (s₁.setTop (mkF m 0 #[.val (.int (3 : Int32)), .val (.int pdepths3_1)] [])) t → Steps p.tables e below (s₁.setTop (entryFrame m #[(.int (3 : Int32)), (.int pdepths3_1)] 2)) t := fun t k => castTop (own_efdepths3 m pdepths3_1) k
  obtain ⟨Tndepths3_1, hndepths3_1, kndepths3_1, Xndepths3_1, endepths3_1, Endepths3_1, Andepths3_1, stndepths3_1⟩ := newP X0 hx hZ (own_W hw 12 rfl) e0 (g := (mkF m 56 #[.val (.int (3 : Int32)), .val (.int pdepths3_1)] [(.int (3 : Int32))])) rfl (hb hby own_d3_56) rfl (by decide) (cap := 3) (by decide) (by decide) (by decide) (by decide)
  obtain ⟨bndepths3_1, gndepths3_1⟩ : ∃ z, z = h0.size := ⟨_, rfl⟩
  rw [← gndepths3_1] at Andepths3_1 stndepths3_1
  have g_bndepths3_1 : n0 ≤ bndepths3_1 := Nat.le_trans Z0 (Nat.le_of_eq gndepths3_1.symm)
  have sz_bndepths3_1 : h0.size ≤ bndepths3_1 := Nat.le_trans Zr (Nat.le_of_eq gndepths3_1.symm)
  have szdepths3_2 : h0.size ≤ hndepths3_1.size := Nat.le_trans Zr Endepths3_1.1
  have V_bndepths3_1 : Arv Z hndepths3_1 bndepths3_1 kndepths3_1 .int (3 : Int32) [(.int (0 : Int32)), (.int (0 : Int32)), (.int (0 : Int32))] (.int (0 : Int32)) := (Arv.new Andepths3_1 (by decide)).pad (pad_rep [] (.int (0 : Int32)) 3)
  obtain ⟨_, _, ⟨Tkdepths3_3, Lkdepths3_3, kkdepths3_3, nkdepths3_3⟩, -, Xkdepths3_3, ⟨Lckdepths3_3, hQkdepths3_3, lkdepths3_3, ykdepths3_3, zkdepths3_3⟩, stkdepths3_3⟩ := Jvm.LawKit.callS Xndepths3_1 hx (y := (⟨"com/example/arborway/arborway/sim/WalkRunningCountPinLaw", "dep", "(II)I"⟩ : MethodName)) hown (mvT hZ (own_W hw 44 rfl)) (mvT hZ (own_W hw 45 rfl)) (mvT hZ (own_W hw 3 rfl)) (mvT hZ (own_W hw 46 rfl)) (by decide) (backOf (W := 3) (own_rm9 l Z a0 hw [] pdepths3_1 (0 : Int32) hndepths3_1 n0 (Nat.le_trans Z0 szdepths3_2)) hZ (own_W hw 46 rfl) (own_W hw 3 rfl) (by decide) (by decide)) (g := (mkF m 62 #[.val (.int (3 : Int32)), .val (.int pdepths3_1)] [(.int (0 : Int32)), (.int pdepths3_1), (.int (0 : Int32)), (.ref bndepths3_1), (.ref bndepths3_1)])) rfl (by rw [hml]; rfl) (argsL := [(.int pdepths3_1), (.int (0 : Int32))]) (rest := [(.int (0 : Int32)), (.ref bndepths3_1), (.ref bndepths3_1)]) (lenOf own_pd2 rfl) rfl (by show 2 * 0 + _ ≤ _; exact Nat.le_of_eq rfl) (hb hby own_d3_62) (fun _ _ => ⟨rfl, endepths3_1, (by decide : 1 + 0 ≤ _), (by decide : 3 + 0 ≤ _)⟩)
  dsimp only [Pt.U, Pt.locs, Pt.cells, Pt.slots] at Xkdepths3_3 lkdepths3_3 ykdepths3_3 zkdepths3_3 stkdepths3_3 hQkdepths3_3
  replace lkdepths3_3 := lkdepths3_3.symm; replace ykdepths3_3 := ykdepths3_3.symm; replace zkdepths3_3 := zkdepths3_3.symm; subst lkdepths3_3 ykdepths3_3 zkdepths3_3
  obtain ⟨rfl, Nkdepths3_3q, ekdepths3_3⟩ := hQkdepths3_3
  have Nkdepths3_3 := Fr.app N0 Nkdepths3_3q
  have Oodepths3_4 := V_bndepths3_1
  obtain ⟨clodepths3_4, Arodepths3_4, qodepths3_4, Sodepths3_4, Nodepths3_4, Hodepths3_4, Godepths3_4⟩ := Oodepths3_4
  have hinodepths3_4 : ¬ ((0 : Int32) < 0 ∨ clodepths3_4.slots.size ≤ ((0 : Int32)).toNatClampNeg) := inb_of Sodepths3_4 ⟨by decide, by decide⟩
  obtain ⟨Todepths3_4, hodepths3_4, Xodepths3_4, eodepths3_4, Wodepths3_4, stodepths3_4⟩ := stI Xkdepths3_3 hx hZ ekdepths3_3 Arodepths3_4 (j := (0 : Int32)) hinodepths3_4 (g := (mkF m 65 #[.val (.int (3 : Int32)), .val (.int pdepths3_1)] [(.int (own_j9_0 pdepths3_1 (0 : Int32))), (.int (0 : Int32)), (.ref bndepths3_1), (.ref bndepths3_1)])) rfl rfl (hb hby own_d3_65)
  have Vwodepths3_4 : Arv Z hodepths3_4 bndepths3_1 kndepths3_1 .int (3 : Int32) [(.int (own_vdepths3_0 pdepths3_1)), (.int (0 : Int32)), (.int (0 : Int32))] (.int (0 : Int32)) := Arv.set Arodepths3_4 qodepths3_4 Sodepths3_4 Nodepths3_4 Hodepths3_4 Godepths3_4 rfl Wodepths3_4 0 rfl (Nat.le_of_ble_eq_true rfl)
  have szdepths3_5 : h0.size ≤ hodepths3_4.size := Nat.le_trans szdepths3_2 (Nat.le_of_eq Wodepths3_4.size.symm)
  have Nfodepths3_4 := Fr.snoc Xodepths3_4 Nkdepths3_3 g_bndepths3_1
  obtain ⟨_, _, ⟨Tkdepths3_6, Lkdepths3_6, kkdepths3_6, nkdepths3_6⟩, -, Xkdepths3_6, ⟨Lckdepths3_6, hQkdepths3_6, lkdepths3_6, ykdepths3_6, zkdepths3_6⟩, stkdepths3_6⟩ := Jvm.LawKit.callS Xodepths3_4 hx (y := (⟨"com/example/arborway/arborway/sim/WalkRunningCountPinLaw", "dep", "(II)I"⟩ : MethodName)) hown (mvT hZ (own_W hw 44 rfl)) (mvT hZ (own_W hw 45 rfl)) (mvT hZ (own_W hw 3 rfl)) (mvT hZ (own_W hw 46 rfl)) (by decide) (backOf (W := 3) (own_rm9 l Z a0 hw [] pdepths3_1 (1 : Int32) hodepths3_4 n0 (Nat.le_trans Z0 szdepths3_5)) hZ (own_W hw 46 rfl) (own_W hw 3 rfl) (by decide) (by decide)) (g := (mkF m 70 #[.val (.int (3 : Int32)), .val (.int pdepths3_1)] [(.int (1 : Int32)), (.int pdepths3_1), (.int (1 : Int32)), (.ref bndepths3_1), (.ref bndepths3_1)])) rfl (by rw [hml]; rfl) (argsL := [(.int pdepths3_1), (.int (1 : Int32))]) (rest := [(.int (1 : Int32)), (.ref bndepths3_1), (.ref bndepths3_1)]) (lenOf own_pd2 rfl) rfl (by show 2 * 0 + _ ≤ _; exact Nat.le_of_eq rfl) (hb hby own_d3_70) (fun _ _ => ⟨rfl, eodepths3_4, (by decide : 1 + 0 ≤ _), (by decide : 3 + 0 ≤ _)⟩)
  dsimp only [Pt.U, Pt.locs, Pt.cells, Pt.slots] at Xkdepths3_6 lkdepths3_6 ykdepths3_6 zkdepths3_6 stkdepths3_6 hQkdepths3_6
  replace lkdepths3_6 := lkdepths3_6.symm; replace ykdepths3_6 := ykdepths3_6.symm; replace zkdepths3_6 := zkdepths3_6.symm; subst lkdepths3_6 ykdepths3_6 zkdepths3_6
  obtain ⟨rfl, Nkdepths3_6q, ekdepths3_6⟩ := hQkdepths3_6
  have Nkdepths3_6 := Fr.app Nfodepths3_4 Nkdepths3_6q
  have Oodepths3_7 := Vwodepths3_4
  obtain ⟨clodepths3_7, Arodepths3_7, qodepths3_7, Sodepths3_7, Nodepths3_7, Hodepths3_7, Godepths3_7⟩ := Oodepths3_7
  have hinodepths3_7 : ¬ ((1 : Int32) < 0 ∨ clodepths3_7.slots.size ≤ ((1 : Int32)).toNatClampNeg) := inb_of Sodepths3_7 ⟨by decide, by decide⟩
  obtain ⟨Todepths3_7, hodepths3_7, Xodepths3_7, eodepths3_7, Wodepths3_7, stodepths3_7⟩ := stI Xkdepths3_6 hx hZ ekdepths3_6 Arodepths3_7 (j := (1 : Int32)) hinodepths3_7 (g := (mkF m 73 #[.val (.int (3 : Int32)), .val (.int pdepths3_1)] [(.int (own_j9_0 pdepths3_1 (1 : Int32))), (.int (1 : Int32)), (.ref bndepths3_1), (.ref bndepths3_1)])) rfl rfl (hb hby own_d3_73)
  have Vwodepths3_7 : Arv Z hodepths3_7 bndepths3_1 kndepths3_1 .int (3 : Int32) [(.int (own_vdepths3_0 pdepths3_1)), (.int (own_vdepths3_1 pdepths3_1)), (.int (0 : Int32))] (.int (0 : Int32)) := Arv.set Arodepths3_7 qodepths3_7 Sodepths3_7 Nodepths3_7 Hodepths3_7 Godepths3_7 rfl Wodepths3_7 1 rfl (Nat.le_of_ble_eq_true rfl)
  have szdepths3_8 : h0.size ≤ hodepths3_7.size := Nat.le_trans szdepths3_5 (Nat.le_of_eq Wodepths3_7.size.symm)
  have Nfodepths3_7 := Fr.snoc Xodepths3_7 Nkdepths3_6 g_bndepths3_1
  obtain ⟨_, _, ⟨Tkdepths3_9, Lkdepths3_9, kkdepths3_9, nkdepths3_9⟩, -, Xkdepths3_9, ⟨Lckdepths3_9, hQkdepths3_9, lkdepths3_9, ykdepths3_9, zkdepths3_9⟩, stkdepths3_9⟩ := Jvm.LawKit.callS Xodepths3_7 hx (y := (⟨"com/example/arborway/arborway/sim/WalkRunningCountPinLaw", "dep", "(II)I"⟩ : MethodName)) hown (mvT hZ (own_W hw 44 rfl)) (mvT hZ (own_W hw 45 rfl)) (mvT hZ (own_W hw 3 rfl)) (mvT hZ (own_W hw 46 rfl)) (by decide) (backOf (W := 3) (own_rm9 l Z a0 hw [] pdepths3_1 (2 : Int32) hodepths3_7 n0 (Nat.le_trans Z0 szdepths3_8)) hZ (own_W hw 46 rfl) (own_W hw 3 rfl) (by decide) (by decide)) (g := (mkF m 78 #[.val (.int (3 : Int32)), .val (.int pdepths3_1)] [(.int (2 : Int32)), (.int pdepths3_1), (.int (2 : Int32)), (.ref bndepths3_1), (.ref bndepths3_1)])) rfl (by rw [hml]; rfl) (argsL := [(.int pdepths3_1), (.int (2 : Int32))]) (rest := [(.int (2 : Int32)), (.ref bndepths3_1), (.ref bndepths3_1)]) (lenOf own_pd2 rfl) rfl (by show 2 * 0 + _ ≤ _; exact Nat.le_of_eq rfl) (hb hby own_d3_78) (fun _ _ => ⟨rfl, eodepths3_7, (by decide : 1 + 0 ≤ _), (by decide : 3 + 0 ≤ _)⟩)
  dsimp only [Pt.U, Pt.locs, Pt.cells, Pt.slots] at Xkdepths3_9 lkdepths3_9 ykdepths3_9 zkdepths3_9 stkdepths3_9 hQkdepths3_9
  replace lkdepths3_9 := lkdepths3_9.symm; replace ykdepths3_9 := ykdepths3_9.symm; replace zkdepths3_9 := zkdepths3_9.symm; subst lkdepths3_9 ykdepths3_9 zkdepths3_9
  obtain ⟨rfl, Nkdepths3_9q, ekdepths3_9⟩ := hQkdepths3_9
  have Nkdepths3_9 := Fr.app Nfodepths3_7 Nkdepths3_9q
  have Oodepths3_10 := Vwodepths3_7
  obtain ⟨clodepths3_10, Arodepths3_10, qodepths3_10, Sodepths3_10, Nodepths3_10, Hodepths3_10, Godepths3_10⟩ := Oodepths3_10
  have hinodepths3_10 : ¬ ((2 : Int32) < 0 ∨ clodepths3_10.slots.size ≤ ((2 : Int32)).toNatClampNeg) := inb_of Sodepths3_10 ⟨by decide, by decide⟩
  obtain ⟨Todepths3_10, hodepths3_10, Xodepths3_10, eodepths3_10, Wodepths3_10, stodepths3_10⟩ := stI Xkdepths3_9 hx hZ ekdepths3_9 Arodepths3_10 (j := (2 : Int32)) hinodepths3_10 (g := (mkF m 81 #[.val (.int (3 : Int32)), .val (.int pdepths3_1)] [(.int (own_j9_0 pdepths3_1 (2 : Int32))), (.int (2 : Int32)), (.ref bndepths3_1), (.ref bndepths3_1)])) rfl rfl (hb hby own_d3_81)
  have Vwodepths3_10 : Arv Z hodepths3_10 bndepths3_1 kndepths3_1 .int (3 : Int32) [(.int (own_vdepths3_0 pdepths3_1)), (.int (own_vdepths3_1 pdepths3_1)), (.int (own_vdepths3_2 pdepths3_1))] (.int (0 : Int32)) := Arv.set Arodepths3_10 qodepths3_10 Sodepths3_10 Nodepths3_10 Hodepths3_10 Godepths3_10 rfl Wodepths3_10 2 rfl (Nat.le_of_ble_eq_true rfl)
  have szdepths3_11 : h0.size ≤ hodepths3_10.size := Nat.le_trans szdepths3_8 (Nat.le_of_eq Wodepths3_10.size.symm)
  have Nfodepths3_10 := Fr.snoc Xodepths3_10 Nkdepths3_9 g_bndepths3_1
  obtain ⟨fs, hr, hrun, hended, hW, hsame⟩ := Xodepths3_10.leave (v := some (.ref bndepths3_1)) (fun h => by rw [Bd.returns] at h; cases h)
  refine ⟨_, _, pre0 _ (?_), hrun, hended, _, _, rfl, ?_, ⟨_, rfl⟩, hW, hsame.mono (by decide) (by decide)⟩
  · show Steps p.tables e below (s₁.setTop (mkF m 0 #[.val (.int (3 : Int32)), .val (.int pdepths3_1)] [])) _
    refine XS.iloadN X0.here hx rfl (hb hby own_d3_0) rfl ?_
    refine XS.ifYes X0.here hx rfl (pc0 := 1) (pc' := 8) rfl (hb hby own_d3_1) rfl (XT.i0_ne_t (by decide : ¬ ((3 : Int32) = (0 : Int32)))) (by decide) (by decide) ?_
    refine XS.iloadN X0.here hx rfl (hb hby own_d3_8) rfl ?_
    refine XS.iconst X0.here hx rfl (hb hby own_d3_9) ?_
    refine XS.icmpYes X0.here hx rfl (pc0 := 10) (pc' := 25) rfl (hb hby own_d3_10) rfl (XT.ii_ne_t (by decide : ¬ ((3 : Int32) = (1 : Int32)))) (by decide) (by decide) ?_
    refine XS.iloadN X0.here hx rfl (hb hby own_d3_25) rfl ?_
    refine XS.iconst X0.here hx rfl (hb hby own_d3_26) ?_
    refine XS.icmpYes X0.here hx rfl (pc0 := 27) (pc' := 50) rfl (hb hby own_d3_27) rfl (XT.ii_ne_t (by decide : ¬ ((3 : Int32) = (2 : Int32)))) (by decide) (by decide) ?_
    refine XS.iloadN X0.here hx rfl (hb hby own_d3_50) rfl ?_
    refine XS.iconst X0.here hx rfl (hb hby own_d3_51) ?_
    refine XS.icmpNo X0.here hx rfl (hb hby own_d3_52) rfl (XT.ii_ne_f (by decide : (3 : Int32) = (3 : Int32))) ?_
    refine XS.iconst X0.here hx rfl (hb hby own_d3_55) ?_
    refine stndepths3_1 _ ?_
    show Steps p.tables e below (Tndepths3_1.setTop (mkF m 58 #[.val (.int (3 : Int32)), .val (.int pdepths3_1)] [(.ref bndepths3_1)])) _
    refine XS.dup Xndepths3_1.here hx rfl (hb hby own_d3_58) rfl rfl ?_
    refine XS.iconst Xndepths3_1.here hx rfl (hb hby own_d3_59) ?_
    refine XS.iloadN Xndepths3_1.here hx rfl (hb hby own_d3_60) rfl ?_
    refine XS.iconst Xndepths3_1.here hx rfl (hb hby own_d3_61) ?_
    refine stkdepths3_3 _ ?_
    show Steps p.tables e below (Tkdepths3_3.setTop (mkF m 65 #[.val (.int (3 : Int32)), .val (.int pdepths3_1)] [(.int (own_j9_0 pdepths3_1 (0 : Int32))), (.int (0 : Int32)), (.ref bndepths3_1), (.ref bndepths3_1)])) _
    refine stodepths3_4 _ ?_
    show Steps p.tables e below (Todepths3_4.setTop (mkF m 66 #[.val (.int (3 : Int32)), .val (.int pdepths3_1)] [(.ref bndepths3_1)])) _
    refine XS.dup Xodepths3_4.here hx rfl (hb hby own_d3_66) rfl rfl ?_
    refine XS.iconst Xodepths3_4.here hx rfl (hb hby own_d3_67) ?_
    refine XS.iloadN Xodepths3_4.here hx rfl (hb hby own_d3_68) rfl ?_
    refine XS.iconst Xodepths3_4.here hx rfl (hb hby own_d3_69) ?_
    refine stkdepths3_6 _ ?_
    show Steps p.tables e below (Tkdepths3_6.setTop (mkF m 73 #[.val (.int (3 : Int32)), .val (.int pdepths3_1)] [(.int (own_j9_0 pdepths3_1 (1 : Int32))), (.int (1 : Int32)), (.ref bndepths3_1), (.ref bndepths3_1)])) _
    refine stodepths3_7 _ ?_
    show Steps p.tables e below (Todepths3_7.setTop (mkF m 74 #[.val (.int (3 : Int32)), .val (.int pdepths3_1)] [(.ref bndepths3_1)])) _
    refine XS.dup Xodepths3_7.here hx rfl (hb hby own_d3_74) rfl rfl ?_
    refine XS.iconst Xodepths3_7.here hx rfl (hb hby own_d3_75) ?_
    refine XS.iloadN Xodepths3_7.here hx rfl (hb hby own_d3_76) rfl ?_
    refine XS.iconst Xodepths3_7.here hx rfl (hb hby own_d3_77) ?_
    refine stkdepths3_9 _ ?_
    show Steps p.tables e below (Tkdepths3_9.setTop (mkF m 81 #[.val (.int (3 : Int32)), .val (.int pdepths3_1)] [(.int (own_j9_0 pdepths3_1 (2 : Int32))), (.int (2 : Int32)), (.ref bndepths3_1), (.ref bndepths3_1)])) _
    refine stodepths3_10 _ ?_
    show Steps p.tables e below (Todepths3_10.setTop (mkF m 82 #[.val (.int (3 : Int32)), .val (.int pdepths3_1)] [(.ref bndepths3_1)])) _
    jvm_step Xodepths3_10.here [Xodepths3_10.here.top, hx, (hb hby own_d3_82), Xodepths3_10.method', Bd.returns, Value.isRef, FieldType.isReference]
    first | (intro acts; rw [hr _ acts rfl rfl rfl]) | rw [hr _ _ rfl rfl rfl]
    exact Steps.refl _
  · show own_Qdepths3 Z pdepths3_1 h0 n0 _ Todepths3_10.heap _
    rw [eodepths3_10]
    exact ⟨bndepths3_1, kndepths3_1, rfl, Nfodepths3_10, (((((Keep.refl h0 []).ext Endepths3_1).wr Wodepths3_4 (Or.inr sz_bndepths3_1)).wr Wodepths3_7 (Or.inr sz_bndepths3_1)).wr Wodepths3_10 (Or.inr sz_bndepths3_1)), sz_bndepths3_1, Vwodepths3_10⟩
theorem own_d3_83 : decode method_5_code 83 = .ok (.iload_n 0, 1) := by decide +kernel
theorem own_d3_84 : decode method_5_code 84 = .ok (.iconst 4, 1) := by decide +kernel
theorem own_d3_85 : decode method_5_code 85 = .ok (.if_icmp .ne 39, 3) := by decide +kernel
theorem own_d3_88 : decode method_5_code 88 = .ok (.iconst 4, 1) := by decide +kernel
theorem own_d3_89 : decode method_5_code 89 = .ok (.newarray .int, 2) := by decide +kernel
theorem own_d3_91 : decode method_5_code 91 = .ok (.dup, 1) := by decide +kernel
theorem own_d3_92 : decode method_5_code 92 = .ok (.iconst 0, 1) := by decide +kernel
theorem own_d3_93 : decode method_5_code 93 = .ok (.iload_n 1, 1) := by decide +kernel
theorem own_d3_94 : decode method_5_code 94 = .ok (.iconst 0, 1) := by decide +kernel
theorem own_d3_95 : decode method_5_code 95 = .ok (.invokestatic 13, 3) := by decide +kernel
theorem own_d3_98 : decode method_5_code 98 = .ok (.iastore, 1) := by decide +kernel
theorem own_d3_99 : decode method_5_code 99 = .ok (.dup, 1) := by decide +kernel
theorem own_d3_100 : decode method_5_code 100 = .ok (.iconst 1, 1) := by decide +kernel
theorem own_d3_101 : decode method_5_code 101 = .ok (.iload_n 1, 1) := by decide +kernel
theorem own_d3_102 : decode method_5_code 102 = .ok (.iconst 1, 1) := by decide +kernel
theorem own_d3_103 : decode method_5_code 103 = .ok (.invokestatic 13, 3) := by decide +kernel
theorem own_d3_106 : decode method_5_code 106 = .ok (.iastore, 1) := by decide +kernel
theorem own_d3_107 : decode method_5_code 107 = .ok (.dup, 1) := by decide +kernel
theorem own_d3_108 : decode method_5_code 108 = .ok (.iconst 2, 1) := by decide +kernel
theorem own_d3_109 : decode method_5_code 109 = .ok (.iload_n 1, 1) := by decide +kernel
theorem own_d3_110 : decode method_5_code 110 = .ok (.iconst 2, 1) := by decide +kernel
theorem own_d3_111 : decode method_5_code 111 = .ok (.invokestatic 13, 3) := by decide +kernel
theorem own_d3_114 : decode method_5_code 114 = .ok (.iastore, 1) := by decide +kernel
theorem own_d3_115 : decode method_5_code 115 = .ok (.dup, 1) := by decide +kernel
theorem own_d3_116 : decode method_5_code 116 = .ok (.iconst 3, 1) := by decide +kernel
theorem own_d3_117 : decode method_5_code 117 = .ok (.iload_n 1, 1) := by decide +kernel
theorem own_d3_118 : decode method_5_code 118 = .ok (.iconst 3, 1) := by decide +kernel
theorem own_d3_119 : decode method_5_code 119 = .ok (.invokestatic 13, 3) := by decide +kernel
theorem own_d3_122 : decode method_5_code 122 = .ok (.iastore, 1) := by decide +kernel
theorem own_d3_123 : decode method_5_code 123 = .ok (.areturn, 1) := by decide +kernel
def own_vdepths4_0 (pdepths4_1 : Int32) : Int32 := (own_j9_0 pdepths4_1 (0 : Int32))
def own_vdepths4_1 (pdepths4_1 : Int32) : Int32 := (own_j9_0 pdepths4_1 (1 : Int32))
def own_vdepths4_2 (pdepths4_1 : Int32) : Int32 := (own_j9_0 pdepths4_1 (2 : Int32))
def own_vdepths4_3 (pdepths4_1 : Int32) : Int32 := (own_j9_0 pdepths4_1 (3 : Int32))
theorem own_efdepths4 (m : MethodId) (pdepths4_1 : Int32) : entryFrame m #[(.int (4 : Int32)), (.int pdepths4_1)] 2 = mkF m 0 #[.val (.int (4 : Int32)), .val (.int pdepths4_1)] [] := by first | (simp [entryFrame, mkF, argsToLocals, Value.category]; done) | rfl
def own_Qdepths4 (Z : State) (pdepths4_1 : Int32) (h0 : Heap) (n0 : Nat) (v : Option Value) (h : Heap) (L : List Loc) : Prop := ∃ (bndepths4_1 : Addr) (kndepths4_1 : ClassId), v = some (.ref bndepths4_1) ∧ Fr n0 L ∧ Keep h0 h [] ∧ h0.size ≤ bndepths4_1 ∧ Arv Z h bndepths4_1 kndepths4_1 .int (4 : Int32) [(.int (own_vdepths4_0 pdepths4_1)), (.int (own_vdepths4_1 pdepths4_1)), (.int (own_vdepths4_2 pdepths4_1)), (.int (own_vdepths4_3 pdepths4_1))] (.int (0 : Int32))
set_option maxRecDepth 65536 in
set_option maxHeartbeats 40000000 in
theorem own_rmdepths4 (l : Launch) (Z : State) (a0 : Array Value) (hw : ∀ d ∈ tables_1, d.before a0 Z = true) (ws : List Jvm.Cond) (pdepths4_1 : Int32) (h0 : Heap) (n0 : Nat) (Z0 : n0 ≤ h0.size) :
    MetFree l (⟨"com/example/arborway/arborway/sim/WalkRunningCountPinLaw", "depths", "(II)[I"⟩ : MethodName) (head1 (Jvm.Cond.code (⟨"com/example/arborway/arborway/sim/WalkRunningCountPinLaw", "depths", "(II)[I"⟩ : MethodName) method_5_code 2 (some (.array .int)) :: ws) ({ frames := 2, cells := 1, slots := 4, locals := 29 } : Room)) (fun a U => a = #[(.int (4 : Int32)), (.int pdepths4_1)] ∧ Z.Warmed39 U.vm ∧ U.heap = h0) (fun _ _ _ _ _ => True) (fun _ U o U' => ∃ v L, o = .returned v ∧ own_Qdepths4 Z pdepths4_1 h0 n0 v U'.heap L ∧ FrameEnd U o U' L ({ frames := 2, cells := 1, slots := 4, locals := 29 } : Room).cells ({ frames := 2, cells := 1, slots := 4, locals := 29 } : Room).slots) := by
  refine MetFree.of_bodySF (plainFor_of_name own_pn0) hisR ?_
  intro p e s m args below meth c s₁ Bd hml0 hP hK
  obtain ⟨rfl, hZ, hh⟩ := hP
  have hx := Bd.exec
  have hby := Bd.bytes
  have hml : c.maxLocals = 2 := hml0
  have hown : s.vm.findClass "com/example/arborway/arborway/sim/WalkRunningCountPinLaw" = some m.cls := findClass_of_methodNamed Bd.named
  have hnm := (name_of_methodNamed Bd.named Bd.method).1
  have X0 : Stand p l e ({ frames := 2, cells := 1, slots := 4, locals := 29 } : Room) s m #[(.int (4 : Int32)), (.int pdepths4_1)] below meth c s₁ [] 0 0 := Stand.of_body Bd
  have e0 : s₁.heap = h0 := by rw [← hh, Bd.state]; rfl
  have N0 := Fr.nil n0
  have Zr : h0.size ≤ h0.size := Nat.le_refl _
  have pre0 : ∀ t, Steps p.tables e below (s₁.setTop (mkF m 0 #[.val (.int (4 : Int32)), .val (.int pdepths4_1)] [])) t → Steps p.tables e below (s₁.setTop (entryFrame m #[(.int (4 : Int32)), (.int pdepths4_1)] 2)) t := fun t k => castTop (own_efdepths4 m pdepths4_1) k
  obtain ⟨Tndepths4_1, hndepths4_1, kndepths4_1, Xndepths4_1, endepths4_1, Endepths4_1, Andepths4_1, stndepths4_1⟩ := newP X0 hx hZ (own_W hw 12 rfl) e0 (g := (mkF m 89 #[.val (.int (4 : Int32)), .val (.int pdepths4_1)] [(.int (4 : Int32))])) rfl (hb hby own_d3_89) rfl (by decide) (cap := 4) (by decide) (by decide) (by decide) (by decide)
  obtain ⟨bndepths4_1, gndepths4_1⟩ : ∃ z, z = h0.size := ⟨_, rfl⟩
  rw [← gndepths4_1] at Andepths4_1 stndepths4_1
  have g_bndepths4_1 : n0 ≤ bndepths4_1 := Nat.le_trans Z0 (Nat.le_of_eq gndepths4_1.symm)
  have sz_bndepths4_1 : h0.size ≤ bndepths4_1 := Nat.le_trans Zr (Nat.le_of_eq gndepths4_1.symm)
  have szdepths4_2 : h0.size ≤ hndepths4_1.size := Nat.le_trans Zr Endepths4_1.1
  have V_bndepths4_1 : Arv Z hndepths4_1 bndepths4_1 kndepths4_1 .int (4 : Int32) [(.int (0 : Int32)), (.int (0 : Int32)), (.int (0 : Int32)), (.int (0 : Int32))] (.int (0 : Int32)) := (Arv.new Andepths4_1 (by decide)).pad (pad_rep [] (.int (0 : Int32)) 4)
  obtain ⟨_, _, ⟨Tkdepths4_3, Lkdepths4_3, kkdepths4_3, nkdepths4_3⟩, -, Xkdepths4_3, ⟨Lckdepths4_3, hQkdepths4_3, lkdepths4_3, ykdepths4_3, zkdepths4_3⟩, stkdepths4_3⟩ := Jvm.LawKit.callS Xndepths4_1 hx (y := (⟨"com/example/arborway/arborway/sim/WalkRunningCountPinLaw", "dep", "(II)I"⟩ : MethodName)) hown (mvT hZ (own_W hw 44 rfl)) (mvT hZ (own_W hw 45 rfl)) (mvT hZ (own_W hw 3 rfl)) (mvT hZ (own_W hw 46 rfl)) (by decide) (backOf (W := 3) (own_rm9 l Z a0 hw [] pdepths4_1 (0 : Int32) hndepths4_1 n0 (Nat.le_trans Z0 szdepths4_2)) hZ (own_W hw 46 rfl) (own_W hw 3 rfl) (by decide) (by decide)) (g := (mkF m 95 #[.val (.int (4 : Int32)), .val (.int pdepths4_1)] [(.int (0 : Int32)), (.int pdepths4_1), (.int (0 : Int32)), (.ref bndepths4_1), (.ref bndepths4_1)])) rfl (by rw [hml]; rfl) (argsL := [(.int pdepths4_1), (.int (0 : Int32))]) (rest := [(.int (0 : Int32)), (.ref bndepths4_1), (.ref bndepths4_1)]) (lenOf own_pd2 rfl) rfl (by show 2 * 0 + _ ≤ _; exact Nat.le_of_eq rfl) (hb hby own_d3_95) (fun _ _ => ⟨rfl, endepths4_1, (by decide : 1 + 0 ≤ _), (by decide : 4 + 0 ≤ _)⟩)
  dsimp only [Pt.U, Pt.locs, Pt.cells, Pt.slots] at Xkdepths4_3 lkdepths4_3 ykdepths4_3 zkdepths4_3 stkdepths4_3 hQkdepths4_3
  replace lkdepths4_3 := lkdepths4_3.symm; replace ykdepths4_3 := ykdepths4_3.symm; replace zkdepths4_3 := zkdepths4_3.symm; subst lkdepths4_3 ykdepths4_3 zkdepths4_3
  obtain ⟨rfl, Nkdepths4_3q, ekdepths4_3⟩ := hQkdepths4_3
  have Nkdepths4_3 := Fr.app N0 Nkdepths4_3q
  have Oodepths4_4 := V_bndepths4_1
  obtain ⟨clodepths4_4, Arodepths4_4, qodepths4_4, Sodepths4_4, Nodepths4_4, Hodepths4_4, Godepths4_4⟩ := Oodepths4_4
  have hinodepths4_4 : ¬ ((0 : Int32) < 0 ∨ clodepths4_4.slots.size ≤ ((0 : Int32)).toNatClampNeg) := inb_of Sodepths4_4 ⟨by decide, by decide⟩
  obtain ⟨Todepths4_4, hodepths4_4, Xodepths4_4, eodepths4_4, Wodepths4_4, stodepths4_4⟩ := stI Xkdepths4_3 hx hZ ekdepths4_3 Arodepths4_4 (j := (0 : Int32)) hinodepths4_4 (g := (mkF m 98 #[.val (.int (4 : Int32)), .val (.int pdepths4_1)] [(.int (own_j9_0 pdepths4_1 (0 : Int32))), (.int (0 : Int32)), (.ref bndepths4_1), (.ref bndepths4_1)])) rfl rfl (hb hby own_d3_98)
  have Vwodepths4_4 : Arv Z hodepths4_4 bndepths4_1 kndepths4_1 .int (4 : Int32) [(.int (own_vdepths4_0 pdepths4_1)), (.int (0 : Int32)), (.int (0 : Int32)), (.int (0 : Int32))] (.int (0 : Int32)) := Arv.set Arodepths4_4 qodepths4_4 Sodepths4_4 Nodepths4_4 Hodepths4_4 Godepths4_4 rfl Wodepths4_4 0 rfl (Nat.le_of_ble_eq_true rfl)
  have szdepths4_5 : h0.size ≤ hodepths4_4.size := Nat.le_trans szdepths4_2 (Nat.le_of_eq Wodepths4_4.size.symm)
  have Nfodepths4_4 := Fr.snoc Xodepths4_4 Nkdepths4_3 g_bndepths4_1
  obtain ⟨_, _, ⟨Tkdepths4_6, Lkdepths4_6, kkdepths4_6, nkdepths4_6⟩, -, Xkdepths4_6, ⟨Lckdepths4_6, hQkdepths4_6, lkdepths4_6, ykdepths4_6, zkdepths4_6⟩, stkdepths4_6⟩ := Jvm.LawKit.callS Xodepths4_4 hx (y := (⟨"com/example/arborway/arborway/sim/WalkRunningCountPinLaw", "dep", "(II)I"⟩ : MethodName)) hown (mvT hZ (own_W hw 44 rfl)) (mvT hZ (own_W hw 45 rfl)) (mvT hZ (own_W hw 3 rfl)) (mvT hZ (own_W hw 46 rfl)) (by decide) (backOf (W := 3) (own_rm9 l Z a0 hw [] pdepths4_1 (1 : Int32) hodepths4_4 n0 (Nat.le_trans Z0 szdepths4_5)) hZ (own_W hw 46 rfl) (own_W hw 3 rfl) (by decide) (by decide)) (g := (mkF m 103 #[.val (.int (4 : Int32)), .val (.int pdepths4_1)] [(.int (1 : Int32)), (.int pdepths4_1), (.int (1 : Int32)), (.ref bndepths4_1), (.ref bndepths4_1)])) rfl (by rw [hml]; rfl) (argsL := [(.int pdepths4_1), (.int (1 : Int32))]) (rest := [(.int (1 : Int32)), (.ref bndepths4_1), (.ref bndepths4_1)]) (lenOf own_pd2 rfl) rfl (by show 2 * 0 + _ ≤ _; exact Nat.le_of_eq rfl) (hb hby own_d3_103) (fun _ _ => ⟨rfl, eodepths4_4, (by decide : 1 + 0 ≤ _), (by decide : 4 + 0 ≤ _)⟩)
  dsimp only [Pt.U, Pt.locs, Pt.cells, Pt.slots] at Xkdepths4_6 lkdepths4_6 ykdepths4_6 zkdepths4_6 stkdepths4_6 hQkdepths4_6
  replace lkdepths4_6 := lkdepths4_6.symm; replace ykdepths4_6 := ykdepths4_6.symm; replace zkdepths4_6 := zkdepths4_6.symm; subst lkdepths4_6 ykdepths4_6 zkdepths4_6
  obtain ⟨rfl, Nkdepths4_6q, ekdepths4_6⟩ := hQkdepths4_6
  have Nkdepths4_6 := Fr.app Nfodepths4_4 Nkdepths4_6q
  have Oodepths4_7 := Vwodepths4_4
  obtain ⟨clodepths4_7, Arodepths4_7, qodepths4_7, Sodepths4_7, Nodepths4_7, Hodepths4_7, Godepths4_7⟩ := Oodepths4_7
  have hinodepths4_7 : ¬ ((1 : Int32) < 0 ∨ clodepths4_7.slots.size ≤ ((1 : Int32)).toNatClampNeg) := inb_of Sodepths4_7 ⟨by decide, by decide⟩
  obtain ⟨Todepths4_7, hodepths4_7, Xodepths4_7, eodepths4_7, Wodepths4_7, stodepths4_7⟩ := stI Xkdepths4_6 hx hZ ekdepths4_6 Arodepths4_7 (j := (1 : Int32)) hinodepths4_7 (g := (mkF m 106 #[.val (.int (4 : Int32)), .val (.int pdepths4_1)] [(.int (own_j9_0 pdepths4_1 (1 : Int32))), (.int (1 : Int32)), (.ref bndepths4_1), (.ref bndepths4_1)])) rfl rfl (hb hby own_d3_106)
  have Vwodepths4_7 : Arv Z hodepths4_7 bndepths4_1 kndepths4_1 .int (4 : Int32) [(.int (own_vdepths4_0 pdepths4_1)), (.int (own_vdepths4_1 pdepths4_1)), (.int (0 : Int32)), (.int (0 : Int32))] (.int (0 : Int32)) := Arv.set Arodepths4_7 qodepths4_7 Sodepths4_7 Nodepths4_7 Hodepths4_7 Godepths4_7 rfl Wodepths4_7 1 rfl (Nat.le_of_ble_eq_true rfl)
  have szdepths4_8 : h0.size ≤ hodepths4_7.size := Nat.le_trans szdepths4_5 (Nat.le_of_eq Wodepths4_7.size.symm)
  have Nfodepths4_7 := Fr.snoc Xodepths4_7 Nkdepths4_6 g_bndepths4_1
  obtain ⟨_, _, ⟨Tkdepths4_9, Lkdepths4_9, kkdepths4_9, nkdepths4_9⟩, -, Xkdepths4_9, ⟨Lckdepths4_9, hQkdepths4_9, lkdepths4_9, ykdepths4_9, zkdepths4_9⟩, stkdepths4_9⟩ := Jvm.LawKit.callS Xodepths4_7 hx (y := (⟨"com/example/arborway/arborway/sim/WalkRunningCountPinLaw", "dep", "(II)I"⟩ : MethodName)) hown (mvT hZ (own_W hw 44 rfl)) (mvT hZ (own_W hw 45 rfl)) (mvT hZ (own_W hw 3 rfl)) (mvT hZ (own_W hw 46 rfl)) (by decide) (backOf (W := 3) (own_rm9 l Z a0 hw [] pdepths4_1 (2 : Int32) hodepths4_7 n0 (Nat.le_trans Z0 szdepths4_8)) hZ (own_W hw 46 rfl) (own_W hw 3 rfl) (by decide) (by decide)) (g := (mkF m 111 #[.val (.int (4 : Int32)), .val (.int pdepths4_1)] [(.int (2 : Int32)), (.int pdepths4_1), (.int (2 : Int32)), (.ref bndepths4_1), (.ref bndepths4_1)])) rfl (by rw [hml]; rfl) (argsL := [(.int pdepths4_1), (.int (2 : Int32))]) (rest := [(.int (2 : Int32)), (.ref bndepths4_1), (.ref bndepths4_1)]) (lenOf own_pd2 rfl) rfl (by show 2 * 0 + _ ≤ _; exact Nat.le_of_eq rfl) (hb hby own_d3_111) (fun _ _ => ⟨rfl, eodepths4_7, (by decide : 1 + 0 ≤ _), (by decide : 4 + 0 ≤ _)⟩)
  dsimp only [Pt.U, Pt.locs, Pt.cells, Pt.slots] at Xkdepths4_9 lkdepths4_9 ykdepths4_9 zkdepths4_9 stkdepths4_9 hQkdepths4_9
  replace lkdepths4_9 := lkdepths4_9.symm; replace ykdepths4_9 := ykdepths4_9.symm; replace zkdepths4_9 := zkdepths4_9.symm; subst lkdepths4_9 ykdepths4_9 zkdepths4_9
  obtain ⟨rfl, Nkdepths4_9q, ekdepths4_9⟩ := hQkdepths4_9
  have Nkdepths4_9 := Fr.app Nfodepths4_7 Nkdepths4_9q
  have Oodepths4_10 := Vwodepths4_7
  obtain ⟨clodepths4_10, Arodepths4_10, qodepths4_10, Sodepths4_10, Nodepths4_10, Hodepths4_10, Godepths4_10⟩ := Oodepths4_10
  have hinodepths4_10 : ¬ ((2 : Int32) < 0 ∨ clodepths4_10.slots.size ≤ ((2 : Int32)).toNatClampNeg) := inb_of Sodepths4_10 ⟨by decide, by decide⟩
  obtain ⟨Todepths4_10, hodepths4_10, Xodepths4_10, eodepths4_10, Wodepths4_10, stodepths4_10⟩ := stI Xkdepths4_9 hx hZ ekdepths4_9 Arodepths4_10 (j := (2 : Int32)) hinodepths4_10 (g := (mkF m 114 #[.val (.int (4 : Int32)), .val (.int pdepths4_1)] [(.int (own_j9_0 pdepths4_1 (2 : Int32))), (.int (2 : Int32)), (.ref bndepths4_1), (.ref bndepths4_1)])) rfl rfl (hb hby own_d3_114)
  have Vwodepths4_10 : Arv Z hodepths4_10 bndepths4_1 kndepths4_1 .int (4 : Int32) [(.int (own_vdepths4_0 pdepths4_1)), (.int (own_vdepths4_1 pdepths4_1)), (.int (own_vdepths4_2 pdepths4_1)), (.int (0 : Int32))] (.int (0 : Int32)) := Arv.set Arodepths4_10 qodepths4_10 Sodepths4_10 Nodepths4_10 Hodepths4_10 Godepths4_10 rfl Wodepths4_10 2 rfl (Nat.le_of_ble_eq_true rfl)
  have szdepths4_11 : h0.size ≤ hodepths4_10.size := Nat.le_trans szdepths4_8 (Nat.le_of_eq Wodepths4_10.size.symm)
  have Nfodepths4_10 := Fr.snoc Xodepths4_10 Nkdepths4_9 g_bndepths4_1
  obtain ⟨_, _, ⟨Tkdepths4_12, Lkdepths4_12, kkdepths4_12, nkdepths4_12⟩, -, Xkdepths4_12, ⟨Lckdepths4_12, hQkdepths4_12, lkdepths4_12, ykdepths4_12, zkdepths4_12⟩, stkdepths4_12⟩ := Jvm.LawKit.callS Xodepths4_10 hx (y := (⟨"com/example/arborway/arborway/sim/WalkRunningCountPinLaw", "dep", "(II)I"⟩ : MethodName)) hown (mvT hZ (own_W hw 44 rfl)) (mvT hZ (own_W hw 45 rfl)) (mvT hZ (own_W hw 3 rfl)) (mvT hZ (own_W hw 46 rfl)) (by decide) (backOf (W := 3) (own_rm9 l Z a0 hw [] pdepths4_1 (3 : Int32) hodepths4_10 n0 (Nat.le_trans Z0 szdepths4_11)) hZ (own_W hw 46 rfl) (own_W hw 3 rfl) (by decide) (by decide)) (g := (mkF m 119 #[.val (.int (4 : Int32)), .val (.int pdepths4_1)] [(.int (3 : Int32)), (.int pdepths4_1), (.int (3 : Int32)), (.ref bndepths4_1), (.ref bndepths4_1)])) rfl (by rw [hml]; rfl) (argsL := [(.int pdepths4_1), (.int (3 : Int32))]) (rest := [(.int (3 : Int32)), (.ref bndepths4_1), (.ref bndepths4_1)]) (lenOf own_pd2 rfl) rfl (by show 2 * 0 + _ ≤ _; exact Nat.le_of_eq rfl) (hb hby own_d3_119) (fun _ _ => ⟨rfl, eodepths4_10, (by decide : 1 + 0 ≤ _), (by decide : 4 + 0 ≤ _)⟩)
  dsimp only [Pt.U, Pt.locs, Pt.cells, Pt.slots] at Xkdepths4_12 lkdepths4_12 ykdepths4_12 zkdepths4_12 stkdepths4_12 hQkdepths4_12
  replace lkdepths4_12 := lkdepths4_12.symm; replace ykdepths4_12 := ykdepths4_12.symm; replace zkdepths4_12 := zkdepths4_12.symm; subst lkdepths4_12 ykdepths4_12 zkdepths4_12
  obtain ⟨rfl, Nkdepths4_12q, ekdepths4_12⟩ := hQkdepths4_12
  have Nkdepths4_12 := Fr.app Nfodepths4_10 Nkdepths4_12q
  have Oodepths4_13 := Vwodepths4_10
  obtain ⟨clodepths4_13, Arodepths4_13, qodepths4_13, Sodepths4_13, Nodepths4_13, Hodepths4_13, Godepths4_13⟩ := Oodepths4_13
  have hinodepths4_13 : ¬ ((3 : Int32) < 0 ∨ clodepths4_13.slots.size ≤ ((3 : Int32)).toNatClampNeg) := inb_of Sodepths4_13 ⟨by decide, by decide⟩
  obtain ⟨Todepths4_13, hodepths4_13, Xodepths4_13, eodepths4_13, Wodepths4_13, stodepths4_13⟩ := stI Xkdepths4_12 hx hZ ekdepths4_12 Arodepths4_13 (j := (3 : Int32)) hinodepths4_13 (g := (mkF m 122 #[.val (.int (4 : Int32)), .val (.int pdepths4_1)] [(.int (own_j9_0 pdepths4_1 (3 : Int32))), (.int (3 : Int32)), (.ref bndepths4_1), (.ref bndepths4_1)])) rfl rfl (hb hby own_d3_122)
  have Vwodepths4_13 : Arv Z hodepths4_13 bndepths4_1 kndepths4_1 .int (4 : Int32) [(.int (own_vdepths4_0 pdepths4_1)), (.int (own_vdepths4_1 pdepths4_1)), (.int (own_vdepths4_2 pdepths4_1)), (.int (own_vdepths4_3 pdepths4_1))] (.int (0 : Int32)) := Arv.set Arodepths4_13 qodepths4_13 Sodepths4_13 Nodepths4_13 Hodepths4_13 Godepths4_13 rfl Wodepths4_13 3 rfl (Nat.le_of_ble_eq_true rfl)
  have szdepths4_14 : h0.size ≤ hodepths4_13.size := Nat.le_trans szdepths4_11 (Nat.le_of_eq Wodepths4_13.size.symm)
  have Nfodepths4_13 := Fr.snoc Xodepths4_13 Nkdepths4_12 g_bndepths4_1
  obtain ⟨fs, hr, hrun, hended, hW, hsame⟩ := Xodepths4_13.leave (v := some (.ref bndepths4_1)) (fun h => by rw [Bd.returns] at h; cases h)
  refine ⟨_, _, pre0 _ (?_), hrun, hended, _, _, rfl, ?_, ⟨_, rfl⟩, hW, hsame.mono (by decide) (by decide)⟩
  · show Steps p.tables e below (s₁.setTop (mkF m 0 #[.val (.int (4 : Int32)), .val (.int pdepths4_1)] [])) _
    refine XS.iloadN X0.here hx rfl (hb hby own_d3_0) rfl ?_
    refine XS.ifYes X0.here hx rfl (pc0 := 1) (pc' := 8) rfl (hb hby own_d3_1) rfl (XT.i0_ne_t (by decide : ¬ ((4 : Int32) = (0 : Int32)))) (by decide) (by decide) ?_
    refine XS.iloadN X0.here hx rfl (hb hby own_d3_8) rfl ?_
    refine XS.iconst X0.here hx rfl (hb hby own_d3_9) ?_
    refine XS.icmpYes X0.here hx rfl (pc0 := 10) (pc' := 25) rfl (hb hby own_d3_10) rfl (XT.ii_ne_t (by decide : ¬ ((4 : Int32) = (1 : Int32)))) (by decide) (by decide) ?_
    refine XS.iloadN X0.here hx rfl (hb hby own_d3_25) rfl ?_
    refine XS.iconst X0.here hx rfl (hb hby own_d3_26) ?_
    refine XS.icmpYes X0.here hx rfl (pc0 := 27) (pc' := 50) rfl (hb hby own_d3_27) rfl (XT.ii_ne_t (by decide : ¬ ((4 : Int32) = (2 : Int32)))) (by decide) (by decide) ?_
    refine XS.iloadN X0.here hx rfl (hb hby own_d3_50) rfl ?_
    refine XS.iconst X0.here hx rfl (hb hby own_d3_51) ?_
    refine XS.icmpYes X0.here hx rfl (pc0 := 52) (pc' := 83) rfl (hb hby own_d3_52) rfl (XT.ii_ne_t (by decide : ¬ ((4 : Int32) = (3 : Int32)))) (by decide) (by decide) ?_
    refine XS.iloadN X0.here hx rfl (hb hby own_d3_83) rfl ?_
    refine XS.iconst X0.here hx rfl (hb hby own_d3_84) ?_
    refine XS.icmpNo X0.here hx rfl (hb hby own_d3_85) rfl (XT.ii_ne_f (by decide : (4 : Int32) = (4 : Int32))) ?_
    refine XS.iconst X0.here hx rfl (hb hby own_d3_88) ?_
    refine stndepths4_1 _ ?_
    show Steps p.tables e below (Tndepths4_1.setTop (mkF m 91 #[.val (.int (4 : Int32)), .val (.int pdepths4_1)] [(.ref bndepths4_1)])) _
    refine XS.dup Xndepths4_1.here hx rfl (hb hby own_d3_91) rfl rfl ?_
    refine XS.iconst Xndepths4_1.here hx rfl (hb hby own_d3_92) ?_
    refine XS.iloadN Xndepths4_1.here hx rfl (hb hby own_d3_93) rfl ?_
    refine XS.iconst Xndepths4_1.here hx rfl (hb hby own_d3_94) ?_
    refine stkdepths4_3 _ ?_
    show Steps p.tables e below (Tkdepths4_3.setTop (mkF m 98 #[.val (.int (4 : Int32)), .val (.int pdepths4_1)] [(.int (own_j9_0 pdepths4_1 (0 : Int32))), (.int (0 : Int32)), (.ref bndepths4_1), (.ref bndepths4_1)])) _
    refine stodepths4_4 _ ?_
    show Steps p.tables e below (Todepths4_4.setTop (mkF m 99 #[.val (.int (4 : Int32)), .val (.int pdepths4_1)] [(.ref bndepths4_1)])) _
    refine XS.dup Xodepths4_4.here hx rfl (hb hby own_d3_99) rfl rfl ?_
    refine XS.iconst Xodepths4_4.here hx rfl (hb hby own_d3_100) ?_
    refine XS.iloadN Xodepths4_4.here hx rfl (hb hby own_d3_101) rfl ?_
    refine XS.iconst Xodepths4_4.here hx rfl (hb hby own_d3_102) ?_
    refine stkdepths4_6 _ ?_
    show Steps p.tables e below (Tkdepths4_6.setTop (mkF m 106 #[.val (.int (4 : Int32)), .val (.int pdepths4_1)] [(.int (own_j9_0 pdepths4_1 (1 : Int32))), (.int (1 : Int32)), (.ref bndepths4_1), (.ref bndepths4_1)])) _
    refine stodepths4_7 _ ?_
    show Steps p.tables e below (Todepths4_7.setTop (mkF m 107 #[.val (.int (4 : Int32)), .val (.int pdepths4_1)] [(.ref bndepths4_1)])) _
    refine XS.dup Xodepths4_7.here hx rfl (hb hby own_d3_107) rfl rfl ?_
    refine XS.iconst Xodepths4_7.here hx rfl (hb hby own_d3_108) ?_
    refine XS.iloadN Xodepths4_7.here hx rfl (hb hby own_d3_109) rfl ?_
    refine XS.iconst Xodepths4_7.here hx rfl (hb hby own_d3_110) ?_
    refine stkdepths4_9 _ ?_
    show Steps p.tables e below (Tkdepths4_9.setTop (mkF m 114 #[.val (.int (4 : Int32)), .val (.int pdepths4_1)] [(.int (own_j9_0 pdepths4_1 (2 : Int32))), (.int (2 : Int32)), (.ref bndepths4_1), (.ref bndepths4_1)])) _
    refine stodepths4_10 _ ?_
    show Steps p.tables e below (Todepths4_10.setTop (mkF m 115 #[.val (.int (4 : Int32)), .val (.int pdepths4_1)] [(.ref bndepths4_1)])) _
    refine XS.dup Xodepths4_10.here hx rfl (hb hby own_d3_115) rfl rfl ?_
    refine XS.iconst Xodepths4_10.here hx rfl (hb hby own_d3_116) ?_
    refine XS.iloadN Xodepths4_10.here hx rfl (hb hby own_d3_117) rfl ?_
    refine XS.iconst Xodepths4_10.here hx rfl (hb hby own_d3_118) ?_
    refine stkdepths4_12 _ ?_
    show Steps p.tables e below (Tkdepths4_12.setTop (mkF m 122 #[.val (.int (4 : Int32)), .val (.int pdepths4_1)] [(.int (own_j9_0 pdepths4_1 (3 : Int32))), (.int (3 : Int32)), (.ref bndepths4_1), (.ref bndepths4_1)])) _
    refine stodepths4_13 _ ?_
    show Steps p.tables e below (Todepths4_13.setTop (mkF m 123 #[.val (.int (4 : Int32)), .val (.int pdepths4_1)] [(.ref bndepths4_1)])) _
    jvm_step Xodepths4_13.here [Xodepths4_13.here.top, hx, (hb hby own_d3_123), Xodepths4_13.method', Bd.returns, Value.isRef, FieldType.isReference]
    first | (intro acts; rw [hr _ acts rfl rfl rfl]) | rw [hr _ _ rfl rfl rfl]
    exact Steps.refl _
  · show own_Qdepths4 Z pdepths4_1 h0 n0 _ Todepths4_13.heap _
    rw [eodepths4_13]
    exact ⟨bndepths4_1, kndepths4_1, rfl, Nfodepths4_13, ((((((Keep.refl h0 []).ext Endepths4_1).wr Wodepths4_4 (Or.inr sz_bndepths4_1)).wr Wodepths4_7 (Or.inr sz_bndepths4_1)).wr Wodepths4_10 (Or.inr sz_bndepths4_1)).wr Wodepths4_13 (Or.inr sz_bndepths4_1)), sz_bndepths4_1, Vwodepths4_13⟩
theorem own_d3_124 : decode method_5_code 124 = .ok (.iload_n 0, 1) := by decide +kernel
theorem own_d3_125 : decode method_5_code 125 = .ok (.iconst 5, 1) := by decide +kernel
theorem own_d3_126 : decode method_5_code 126 = .ok (.if_icmp .ne 47, 3) := by decide +kernel
theorem own_d3_129 : decode method_5_code 129 = .ok (.iconst 5, 1) := by decide +kernel
theorem own_d3_130 : decode method_5_code 130 = .ok (.newarray .int, 2) := by decide +kernel
theorem own_d3_132 : decode method_5_code 132 = .ok (.dup, 1) := by decide +kernel
theorem own_d3_133 : decode method_5_code 133 = .ok (.iconst 0, 1) := by decide +kernel
theorem own_d3_134 : decode method_5_code 134 = .ok (.iload_n 1, 1) := by decide +kernel
theorem own_d3_135 : decode method_5_code 135 = .ok (.iconst 0, 1) := by decide +kernel
theorem own_d3_136 : decode method_5_code 136 = .ok (.invokestatic 13, 3) := by decide +kernel
theorem own_d3_139 : decode method_5_code 139 = .ok (.iastore, 1) := by decide +kernel
theorem own_d3_140 : decode method_5_code 140 = .ok (.dup, 1) := by decide +kernel
theorem own_d3_141 : decode method_5_code 141 = .ok (.iconst 1, 1) := by decide +kernel
theorem own_d3_142 : decode method_5_code 142 = .ok (.iload_n 1, 1) := by decide +kernel
theorem own_d3_143 : decode method_5_code 143 = .ok (.iconst 1, 1) := by decide +kernel
theorem own_d3_144 : decode method_5_code 144 = .ok (.invokestatic 13, 3) := by decide +kernel
theorem own_d3_147 : decode method_5_code 147 = .ok (.iastore, 1) := by decide +kernel
theorem own_d3_148 : decode method_5_code 148 = .ok (.dup, 1) := by decide +kernel
theorem own_d3_149 : decode method_5_code 149 = .ok (.iconst 2, 1) := by decide +kernel
theorem own_d3_150 : decode method_5_code 150 = .ok (.iload_n 1, 1) := by decide +kernel
theorem own_d3_151 : decode method_5_code 151 = .ok (.iconst 2, 1) := by decide +kernel
theorem own_d3_152 : decode method_5_code 152 = .ok (.invokestatic 13, 3) := by decide +kernel
theorem own_d3_155 : decode method_5_code 155 = .ok (.iastore, 1) := by decide +kernel
theorem own_d3_156 : decode method_5_code 156 = .ok (.dup, 1) := by decide +kernel
theorem own_d3_157 : decode method_5_code 157 = .ok (.iconst 3, 1) := by decide +kernel
theorem own_d3_158 : decode method_5_code 158 = .ok (.iload_n 1, 1) := by decide +kernel
theorem own_d3_159 : decode method_5_code 159 = .ok (.iconst 3, 1) := by decide +kernel
theorem own_d3_160 : decode method_5_code 160 = .ok (.invokestatic 13, 3) := by decide +kernel
theorem own_d3_163 : decode method_5_code 163 = .ok (.iastore, 1) := by decide +kernel
theorem own_d3_164 : decode method_5_code 164 = .ok (.dup, 1) := by decide +kernel
theorem own_d3_165 : decode method_5_code 165 = .ok (.iconst 4, 1) := by decide +kernel
theorem own_d3_166 : decode method_5_code 166 = .ok (.iload_n 1, 1) := by decide +kernel
theorem own_d3_167 : decode method_5_code 167 = .ok (.iconst 4, 1) := by decide +kernel
theorem own_d3_168 : decode method_5_code 168 = .ok (.invokestatic 13, 3) := by decide +kernel
theorem own_d3_171 : decode method_5_code 171 = .ok (.iastore, 1) := by decide +kernel
theorem own_d3_172 : decode method_5_code 172 = .ok (.areturn, 1) := by decide +kernel
def own_vdepths5_0 (pdepths5_1 : Int32) : Int32 := (own_j9_0 pdepths5_1 (0 : Int32))
def own_vdepths5_1 (pdepths5_1 : Int32) : Int32 := (own_j9_0 pdepths5_1 (1 : Int32))
def own_vdepths5_2 (pdepths5_1 : Int32) : Int32 := (own_j9_0 pdepths5_1 (2 : Int32))
def own_vdepths5_3 (pdepths5_1 : Int32) : Int32 := (own_j9_0 pdepths5_1 (3 : Int32))
def own_vdepths5_4 (pdepths5_1 : Int32) : Int32 := (own_j9_0 pdepths5_1 (4 : Int32))
theorem own_efdepths5 (m : MethodId) (pdepths5_1 : Int32) : entryFrame m #[(.int (5 : Int32)), (.int pdepths5_1)] 2 = mkF m 0 #[.val (.int (5 : Int32)), .val (.int pdepths5_1)] [] := by first | (simp [entryFrame, mkF, argsToLocals, Value.category]; done) | rfl
def own_Qdepths5 (Z : State) (pdepths5_1 : Int32) (h0 : Heap) (n0 : Nat) (v : Option Value) (h : Heap) (L : List Loc) : Prop := ∃ (bndepths5_1 : Addr) (kndepths5_1 : ClassId), v = some (.ref bndepths5_1) ∧ Fr n0 L ∧ Keep h0 h [] ∧ h0.size ≤ bndepths5_1 ∧ Arv Z h bndepths5_1 kndepths5_1 .int (5 : Int32) [(.int (own_vdepths5_0 pdepths5_1)), (.int (own_vdepths5_1 pdepths5_1)), (.int (own_vdepths5_2 pdepths5_1)), (.int (own_vdepths5_3 pdepths5_1)), (.int (own_vdepths5_4 pdepths5_1))] (.int (0 : Int32))
set_option maxRecDepth 65536 in
set_option maxHeartbeats 40000000 in
theorem own_rmdepths5 (l : Launch) (Z : State) (a0 : Array Value) (hw : ∀ d ∈ tables_1, d.before a0 Z = true) (ws : List Jvm.Cond) (pdepths5_1 : Int32) (h0 : Heap) (n0 : Nat) (Z0 : n0 ≤ h0.size) :
    MetFree l (⟨"com/example/arborway/arborway/sim/WalkRunningCountPinLaw", "depths", "(II)[I"⟩ : MethodName) (head1 (Jvm.Cond.code (⟨"com/example/arborway/arborway/sim/WalkRunningCountPinLaw", "depths", "(II)[I"⟩ : MethodName) method_5_code 2 (some (.array .int)) :: ws) ({ frames := 2, cells := 1, slots := 5, locals := 29 } : Room)) (fun a U => a = #[(.int (5 : Int32)), (.int pdepths5_1)] ∧ Z.Warmed39 U.vm ∧ U.heap = h0) (fun _ _ _ _ _ => True) (fun _ U o U' => ∃ v L, o = .returned v ∧ own_Qdepths5 Z pdepths5_1 h0 n0 v U'.heap L ∧ FrameEnd U o U' L ({ frames := 2, cells := 1, slots := 5, locals := 29 } : Room).cells ({ frames := 2, cells := 1, slots := 5, locals := 29 } : Room).slots) := by
  refine MetFree.of_bodySF (plainFor_of_name own_pn0) hisR ?_
  intro p e s m args below meth c s₁ Bd hml0 hP hK
  obtain ⟨rfl, hZ, hh⟩ := hP
  have hx := Bd.exec
  have hby := Bd.bytes
  have hml : c.maxLocals = 2 := hml0
  have hown : s.vm.findClass "com/example/arborway/arborway/sim/WalkRunningCountPinLaw" = some m.cls := findClass_of_methodNamed Bd.named
  have hnm := (name_of_methodNamed Bd.named Bd.method).1
  have X0 : Stand p l e ({ frames := 2, cells := 1, slots := 5, locals := 29 } : Room) s m #[(.int (5 : Int32)), (.int pdepths5_1)] below meth c s₁ [] 0 0 := Stand.of_body Bd
  have e0 : s₁.heap = h0 := by rw [← hh, Bd.state]; rfl
  have N0 := Fr.nil n0
  have Zr : h0.size ≤ h0.size := Nat.le_refl _
  have pre0 : ∀ t, Steps p.tables e below (s₁.setTop (mkF m 0 #[.val (.int (5 : Int32)), .val (.int pdepths5_1)] [])) t → Steps p.tables e below (s₁.setTop (entryFrame m #[(.int (5 : Int32)), (.int pdepths5_1)] 2)) t := fun t k => castTop (own_efdepths5 m pdepths5_1) k
  obtain ⟨Tndepths5_1, hndepths5_1, kndepths5_1, Xndepths5_1, endepths5_1, Endepths5_1, Andepths5_1, stndepths5_1⟩ := newP X0 hx hZ (own_W hw 12 rfl) e0 (g := (mkF m 130 #[.val (.int (5 : Int32)), .val (.int pdepths5_1)] [(.int (5 : Int32))])) rfl (hb hby own_d3_130) rfl (by decide) (cap := 5) (by decide) (by decide) (by decide) (by decide)
  obtain ⟨bndepths5_1, gndepths5_1⟩ : ∃ z, z = h0.size := ⟨_, rfl⟩
  rw [← gndepths5_1] at Andepths5_1 stndepths5_1
  have g_bndepths5_1 : n0 ≤ bndepths5_1 := Nat.le_trans Z0 (Nat.le_of_eq gndepths5_1.symm)
  have sz_bndepths5_1 : h0.size ≤ bndepths5_1 := Nat.le_trans Zr (Nat.le_of_eq gndepths5_1.symm)
  have szdepths5_2 : h0.size ≤ hndepths5_1.size := Nat.le_trans Zr Endepths5_1.1
  have V_bndepths5_1 : Arv Z hndepths5_1 bndepths5_1 kndepths5_1 .int (5 : Int32) [(.int (0 : Int32)), (.int (0 : Int32)), (.int (0 : Int32)), (.int (0 : Int32)), (.int (0 : Int32))] (.int (0 : Int32)) := (Arv.new Andepths5_1 (by decide)).pad (pad_rep [] (.int (0 : Int32)) 5)
  obtain ⟨_, _, ⟨Tkdepths5_3, Lkdepths5_3, kkdepths5_3, nkdepths5_3⟩, -, Xkdepths5_3, ⟨Lckdepths5_3, hQkdepths5_3, lkdepths5_3, ykdepths5_3, zkdepths5_3⟩, stkdepths5_3⟩ := Jvm.LawKit.callS Xndepths5_1 hx (y := (⟨"com/example/arborway/arborway/sim/WalkRunningCountPinLaw", "dep", "(II)I"⟩ : MethodName)) hown (mvT hZ (own_W hw 44 rfl)) (mvT hZ (own_W hw 45 rfl)) (mvT hZ (own_W hw 3 rfl)) (mvT hZ (own_W hw 46 rfl)) (by decide) (backOf (W := 3) (own_rm9 l Z a0 hw [] pdepths5_1 (0 : Int32) hndepths5_1 n0 (Nat.le_trans Z0 szdepths5_2)) hZ (own_W hw 46 rfl) (own_W hw 3 rfl) (by decide) (by decide)) (g := (mkF m 136 #[.val (.int (5 : Int32)), .val (.int pdepths5_1)] [(.int (0 : Int32)), (.int pdepths5_1), (.int (0 : Int32)), (.ref bndepths5_1), (.ref bndepths5_1)])) rfl (by rw [hml]; rfl) (argsL := [(.int pdepths5_1), (.int (0 : Int32))]) (rest := [(.int (0 : Int32)), (.ref bndepths5_1), (.ref bndepths5_1)]) (lenOf own_pd2 rfl) rfl (by show 2 * 0 + _ ≤ _; exact Nat.le_of_eq rfl) (hb hby own_d3_136) (fun _ _ => ⟨rfl, endepths5_1, (by decide : 1 + 0 ≤ _), (by decide : 5 + 0 ≤ _)⟩)
  dsimp only [Pt.U, Pt.locs, Pt.cells, Pt.slots] at Xkdepths5_3 lkdepths5_3 ykdepths5_3 zkdepths5_3 stkdepths5_3 hQkdepths5_3
  replace lkdepths5_3 := lkdepths5_3.symm; replace ykdepths5_3 := ykdepths5_3.symm; replace zkdepths5_3 := zkdepths5_3.symm; subst lkdepths5_3 ykdepths5_3 zkdepths5_3
  obtain ⟨rfl, Nkdepths5_3q, ekdepths5_3⟩ := hQkdepths5_3
  have Nkdepths5_3 := Fr.app N0 Nkdepths5_3q
  have Oodepths5_4 := V_bndepths5_1
  obtain ⟨clodepths5_4, Arodepths5_4, qodepths5_4, Sodepths5_4, Nodepths5_4, Hodepths5_4, Godepths5_4⟩ := Oodepths5_4
  have hinodepths5_4 : ¬ ((0 : Int32) < 0 ∨ clodepths5_4.slots.size ≤ ((0 : Int32)).toNatClampNeg) := inb_of Sodepths5_4 ⟨by decide, by decide⟩
  obtain ⟨Todepths5_4, hodepths5_4, Xodepths5_4, eodepths5_4, Wodepths5_4, stodepths5_4⟩ := stI Xkdepths5_3 hx hZ ekdepths5_3 Arodepths5_4 (j := (0 : Int32)) hinodepths5_4 (g := (mkF m 139 #[.val (.int (5 : Int32)), .val (.int pdepths5_1)] [(.int (own_j9_0 pdepths5_1 (0 : Int32))), (.int (0 : Int32)), (.ref bndepths5_1), (.ref bndepths5_1)])) rfl rfl (hb hby own_d3_139)
  have Vwodepths5_4 : Arv Z hodepths5_4 bndepths5_1 kndepths5_1 .int (5 : Int32) [(.int (own_vdepths5_0 pdepths5_1)), (.int (0 : Int32)), (.int (0 : Int32)), (.int (0 : Int32)), (.int (0 : Int32))] (.int (0 : Int32)) := Arv.set Arodepths5_4 qodepths5_4 Sodepths5_4 Nodepths5_4 Hodepths5_4 Godepths5_4 rfl Wodepths5_4 0 rfl (Nat.le_of_ble_eq_true rfl)
  have szdepths5_5 : h0.size ≤ hodepths5_4.size := Nat.le_trans szdepths5_2 (Nat.le_of_eq Wodepths5_4.size.symm)
  have Nfodepths5_4 := Fr.snoc Xodepths5_4 Nkdepths5_3 g_bndepths5_1
  obtain ⟨_, _, ⟨Tkdepths5_6, Lkdepths5_6, kkdepths5_6, nkdepths5_6⟩, -, Xkdepths5_6, ⟨Lckdepths5_6, hQkdepths5_6, lkdepths5_6, ykdepths5_6, zkdepths5_6⟩, stkdepths5_6⟩ := Jvm.LawKit.callS Xodepths5_4 hx (y := (⟨"com/example/arborway/arborway/sim/WalkRunningCountPinLaw", "dep", "(II)I"⟩ : MethodName)) hown (mvT hZ (own_W hw 44 rfl)) (mvT hZ (own_W hw 45 rfl)) (mvT hZ (own_W hw 3 rfl)) (mvT hZ (own_W hw 46 rfl)) (by decide) (backOf (W := 3) (own_rm9 l Z a0 hw [] pdepths5_1 (1 : Int32) hodepths5_4 n0 (Nat.le_trans Z0 szdepths5_5)) hZ (own_W hw 46 rfl) (own_W hw 3 rfl) (by decide) (by decide)) (g := (mkF m 144 #[.val (.int (5 : Int32)), .val (.int pdepths5_1)] [(.int (1 : Int32)), (.int pdepths5_1), (.int (1 : Int32)), (.ref bndepths5_1), (.ref bndepths5_1)])) rfl (by rw [hml]; rfl) (argsL := [(.int pdepths5_1), (.int (1 : Int32))]) (rest := [(.int (1 : Int32)), (.ref bndepths5_1), (.ref bndepths5_1)]) (lenOf own_pd2 rfl) rfl (by show 2 * 0 + _ ≤ _; exact Nat.le_of_eq rfl) (hb hby own_d3_144) (fun _ _ => ⟨rfl, eodepths5_4, (by decide : 1 + 0 ≤ _), (by decide : 5 + 0 ≤ _)⟩)
  dsimp only [Pt.U, Pt.locs, Pt.cells, Pt.slots] at Xkdepths5_6 lkdepths5_6 ykdepths5_6 zkdepths5_6 stkdepths5_6 hQkdepths5_6
  replace lkdepths5_6 := lkdepths5_6.symm; replace ykdepths5_6 := ykdepths5_6.symm; replace zkdepths5_6 := zkdepths5_6.symm; subst lkdepths5_6 ykdepths5_6 zkdepths5_6
  obtain ⟨rfl, Nkdepths5_6q, ekdepths5_6⟩ := hQkdepths5_6
  have Nkdepths5_6 := Fr.app Nfodepths5_4 Nkdepths5_6q
  have Oodepths5_7 := Vwodepths5_4
  obtain ⟨clodepths5_7, Arodepths5_7, qodepths5_7, Sodepths5_7, Nodepths5_7, Hodepths5_7, Godepths5_7⟩ := Oodepths5_7
  have hinodepths5_7 : ¬ ((1 : Int32) < 0 ∨ clodepths5_7.slots.size ≤ ((1 : Int32)).toNatClampNeg) := inb_of Sodepths5_7 ⟨by decide, by decide⟩
  obtain ⟨Todepths5_7, hodepths5_7, Xodepths5_7, eodepths5_7, Wodepths5_7, stodepths5_7⟩ := stI Xkdepths5_6 hx hZ ekdepths5_6 Arodepths5_7 (j := (1 : Int32)) hinodepths5_7 (g := (mkF m 147 #[.val (.int (5 : Int32)), .val (.int pdepths5_1)] [(.int (own_j9_0 pdepths5_1 (1 : Int32))), (.int (1 : Int32)), (.ref bndepths5_1), (.ref bndepths5_1)])) rfl rfl (hb hby own_d3_147)
  have Vwodepths5_7 : Arv Z hodepths5_7 bndepths5_1 kndepths5_1 .int (5 : Int32) [(.int (own_vdepths5_0 pdepths5_1)), (.int (own_vdepths5_1 pdepths5_1)), (.int (0 : Int32)), (.int (0 : Int32)), (.int (0 : Int32))] (.int (0 : Int32)) := Arv.set Arodepths5_7 qodepths5_7 Sodepths5_7 Nodepths5_7 Hodepths5_7 Godepths5_7 rfl Wodepths5_7 1 rfl (Nat.le_of_ble_eq_true rfl)
  have szdepths5_8 : h0.size ≤ hodepths5_7.size := Nat.le_trans szdepths5_5 (Nat.le_of_eq Wodepths5_7.size.symm)
  have Nfodepths5_7 := Fr.snoc Xodepths5_7 Nkdepths5_6 g_bndepths5_1
  obtain ⟨_, _, ⟨Tkdepths5_9, Lkdepths5_9, kkdepths5_9, nkdepths5_9⟩, -, Xkdepths5_9, ⟨Lckdepths5_9, hQkdepths5_9, lkdepths5_9, ykdepths5_9, zkdepths5_9⟩, stkdepths5_9⟩ := Jvm.LawKit.callS Xodepths5_7 hx (y := (⟨"com/example/arborway/arborway/sim/WalkRunningCountPinLaw", "dep", "(II)I"⟩ : MethodName)) hown (mvT hZ (own_W hw 44 rfl)) (mvT hZ (own_W hw 45 rfl)) (mvT hZ (own_W hw 3 rfl)) (mvT hZ (own_W hw 46 rfl)) (by decide) (backOf (W := 3) (own_rm9 l Z a0 hw [] pdepths5_1 (2 : Int32) hodepths5_7 n0 (Nat.le_trans Z0 szdepths5_8)) hZ (own_W hw 46 rfl) (own_W hw 3 rfl) (by decide) (by decide)) (g := (mkF m 152 #[.val (.int (5 : Int32)), .val (.int pdepths5_1)] [(.int (2 : Int32)), (.int pdepths5_1), (.int (2 : Int32)), (.ref bndepths5_1), (.ref bndepths5_1)])) rfl (by rw [hml]; rfl) (argsL := [(.int pdepths5_1), (.int (2 : Int32))]) (rest := [(.int (2 : Int32)), (.ref bndepths5_1), (.ref bndepths5_1)]) (lenOf own_pd2 rfl) rfl (by show 2 * 0 + _ ≤ _; exact Nat.le_of_eq rfl) (hb hby own_d3_152) (fun _ _ => ⟨rfl, eodepths5_7, (by decide : 1 + 0 ≤ _), (by decide : 5 + 0 ≤ _)⟩)
  dsimp only [Pt.U, Pt.locs, Pt.cells, Pt.slots] at Xkdepths5_9 lkdepths5_9 ykdepths5_9 zkdepths5_9 stkdepths5_9 hQkdepths5_9
  replace lkdepths5_9 := lkdepths5_9.symm; replace ykdepths5_9 := ykdepths5_9.symm; replace zkdepths5_9 := zkdepths5_9.symm; subst lkdepths5_9 ykdepths5_9 zkdepths5_9
  obtain ⟨rfl, Nkdepths5_9q, ekdepths5_9⟩ := hQkdepths5_9
  have Nkdepths5_9 := Fr.app Nfodepths5_7 Nkdepths5_9q
  have Oodepths5_10 := Vwodepths5_7
  obtain ⟨clodepths5_10, Arodepths5_10, qodepths5_10, Sodepths5_10, Nodepths5_10, Hodepths5_10, Godepths5_10⟩ := Oodepths5_10
  have hinodepths5_10 : ¬ ((2 : Int32) < 0 ∨ clodepths5_10.slots.size ≤ ((2 : Int32)).toNatClampNeg) := inb_of Sodepths5_10 ⟨by decide, by decide⟩
  obtain ⟨Todepths5_10, hodepths5_10, Xodepths5_10, eodepths5_10, Wodepths5_10, stodepths5_10⟩ := stI Xkdepths5_9 hx hZ ekdepths5_9 Arodepths5_10 (j := (2 : Int32)) hinodepths5_10 (g := (mkF m 155 #[.val (.int (5 : Int32)), .val (.int pdepths5_1)] [(.int (own_j9_0 pdepths5_1 (2 : Int32))), (.int (2 : Int32)), (.ref bndepths5_1), (.ref bndepths5_1)])) rfl rfl (hb hby own_d3_155)
  have Vwodepths5_10 : Arv Z hodepths5_10 bndepths5_1 kndepths5_1 .int (5 : Int32) [(.int (own_vdepths5_0 pdepths5_1)), (.int (own_vdepths5_1 pdepths5_1)), (.int (own_vdepths5_2 pdepths5_1)), (.int (0 : Int32)), (.int (0 : Int32))] (.int (0 : Int32)) := Arv.set Arodepths5_10 qodepths5_10 Sodepths5_10 Nodepths5_10 Hodepths5_10 Godepths5_10 rfl Wodepths5_10 2 rfl (Nat.le_of_ble_eq_true rfl)
  have szdepths5_11 : h0.size ≤ hodepths5_10.size := Nat.le_trans szdepths5_8 (Nat.le_of_eq Wodepths5_10.size.symm)
  have Nfodepths5_10 := Fr.snoc Xodepths5_10 Nkdepths5_9 g_bndepths5_1
  obtain ⟨_, _, ⟨Tkdepths5_12, Lkdepths5_12, kkdepths5_12, nkdepths5_12⟩, -, Xkdepths5_12, ⟨Lckdepths5_12, hQkdepths5_12, lkdepths5_12, ykdepths5_12, zkdepths5_12⟩, stkdepths5_12⟩ := Jvm.LawKit.callS Xodepths5_10 hx (y := (⟨"com/example/arborway/arborway/sim/WalkRunningCountPinLaw", "dep", "(II)I"⟩ : MethodName)) hown (mvT hZ (own_W hw 44 rfl)) (mvT hZ (own_W hw 45 rfl)) (mvT hZ (own_W hw 3 rfl)) (mvT hZ (own_W hw 46 rfl)) (by decide) (backOf (W := 3) (own_rm9 l Z a0 hw [] pdepths5_1 (3 : Int32) hodepths5_10 n0 (Nat.le_trans Z0 szdepths5_11)) hZ (own_W hw 46 rfl) (own_W hw 3 rfl) (by decide) (by decide)) (g := (mkF m 160 #[.val (.int (5 : Int32)), .val (.int pdepths5_1)] [(.int (3 : Int32)), (.int pdepths5_1), (.int (3 : Int32)), (.ref bndepths5_1), (.ref bndepths5_1)])) rfl (by rw [hml]; rfl) (argsL := [(.int pdepths5_1), (.int (3 : Int32))]) (rest := [(.int (3 : Int32)), (.ref bndepths5_1), (.ref bndepths5_1)]) (lenOf own_pd2 rfl) rfl (by show 2 * 0 + _ ≤ _; exact Nat.le_of_eq rfl) (hb hby own_d3_160) (fun _ _ => ⟨rfl, eodepths5_10, (by decide : 1 + 0 ≤ _), (by decide : 5 + 0 ≤ _)⟩)
  dsimp only [Pt.U, Pt.locs, Pt.cells, Pt.slots] at Xkdepths5_12 lkdepths5_12 ykdepths5_12 zkdepths5_12 stkdepths5_12 hQkdepths5_12
  replace lkdepths5_12 := lkdepths5_12.symm; replace ykdepths5_12 := ykdepths5_12.symm; replace zkdepths5_12 := zkdepths5_12.symm; subst lkdepths5_12 ykdepths5_12 zkdepths5_12
  obtain ⟨rfl, Nkdepths5_12q, ekdepths5_12⟩ := hQkdepths5_12
  have Nkdepths5_12 := Fr.app Nfodepths5_10 Nkdepths5_12q
  have Oodepths5_13 := Vwodepths5_10
  obtain ⟨clodepths5_13, Arodepths5_13, qodepths5_13, Sodepths5_13, Nodepths5_13, Hodepths5_13, Godepths5_13⟩ := Oodepths5_13
  have hinodepths5_13 : ¬ ((3 : Int32) < 0 ∨ clodepths5_13.slots.size ≤ ((3 : Int32)).toNatClampNeg) := inb_of Sodepths5_13 ⟨by decide, by decide⟩
  obtain ⟨Todepths5_13, hodepths5_13, Xodepths5_13, eodepths5_13, Wodepths5_13, stodepths5_13⟩ := stI Xkdepths5_12 hx hZ ekdepths5_12 Arodepths5_13 (j := (3 : Int32)) hinodepths5_13 (g := (mkF m 163 #[.val (.int (5 : Int32)), .val (.int pdepths5_1)] [(.int (own_j9_0 pdepths5_1 (3 : Int32))), (.int (3 : Int32)), (.ref bndepths5_1), (.ref bndepths5_1)])) rfl rfl (hb hby own_d3_163)
  have Vwodepths5_13 : Arv Z hodepths5_13 bndepths5_1 kndepths5_1 .int (5 : Int32) [(.int (own_vdepths5_0 pdepths5_1)), (.int (own_vdepths5_1 pdepths5_1)), (.int (own_vdepths5_2 pdepths5_1)), (.int (own_vdepths5_3 pdepths5_1)), (.int (0 : Int32))] (.int (0 : Int32)) := Arv.set Arodepths5_13 qodepths5_13 Sodepths5_13 Nodepths5_13 Hodepths5_13 Godepths5_13 rfl Wodepths5_13 3 rfl (Nat.le_of_ble_eq_true rfl)
  have szdepths5_14 : h0.size ≤ hodepths5_13.size := Nat.le_trans szdepths5_11 (Nat.le_of_eq Wodepths5_13.size.symm)
  have Nfodepths5_13 := Fr.snoc Xodepths5_13 Nkdepths5_12 g_bndepths5_1
  obtain ⟨_, _, ⟨Tkdepths5_15, Lkdepths5_15, kkdepths5_15, nkdepths5_15⟩, -, Xkdepths5_15, ⟨Lckdepths5_15, hQkdepths5_15, lkdepths5_15, ykdepths5_15, zkdepths5_15⟩, stkdepths5_15⟩ := Jvm.LawKit.callS Xodepths5_13 hx (y := (⟨"com/example/arborway/arborway/sim/WalkRunningCountPinLaw", "dep", "(II)I"⟩ : MethodName)) hown (mvT hZ (own_W hw 44 rfl)) (mvT hZ (own_W hw 45 rfl)) (mvT hZ (own_W hw 3 rfl)) (mvT hZ (own_W hw 46 rfl)) (by decide) (backOf (W := 3) (own_rm9 l Z a0 hw [] pdepths5_1 (4 : Int32) hodepths5_13 n0 (Nat.le_trans Z0 szdepths5_14)) hZ (own_W hw 46 rfl) (own_W hw 3 rfl) (by decide) (by decide)) (g := (mkF m 168 #[.val (.int (5 : Int32)), .val (.int pdepths5_1)] [(.int (4 : Int32)), (.int pdepths5_1), (.int (4 : Int32)), (.ref bndepths5_1), (.ref bndepths5_1)])) rfl (by rw [hml]; rfl) (argsL := [(.int pdepths5_1), (.int (4 : Int32))]) (rest := [(.int (4 : Int32)), (.ref bndepths5_1), (.ref bndepths5_1)]) (lenOf own_pd2 rfl) rfl (by show 2 * 0 + _ ≤ _; exact Nat.le_of_eq rfl) (hb hby own_d3_168) (fun _ _ => ⟨rfl, eodepths5_13, (by decide : 1 + 0 ≤ _), (by decide : 5 + 0 ≤ _)⟩)
  dsimp only [Pt.U, Pt.locs, Pt.cells, Pt.slots] at Xkdepths5_15 lkdepths5_15 ykdepths5_15 zkdepths5_15 stkdepths5_15 hQkdepths5_15
  replace lkdepths5_15 := lkdepths5_15.symm; replace ykdepths5_15 := ykdepths5_15.symm; replace zkdepths5_15 := zkdepths5_15.symm; subst lkdepths5_15 ykdepths5_15 zkdepths5_15
  obtain ⟨rfl, Nkdepths5_15q, ekdepths5_15⟩ := hQkdepths5_15
  have Nkdepths5_15 := Fr.app Nfodepths5_13 Nkdepths5_15q
  have Oodepths5_16 := Vwodepths5_13
  obtain ⟨clodepths5_16, Arodepths5_16, qodepths5_16, Sodepths5_16, Nodepths5_16, Hodepths5_16, Godepths5_16⟩ := Oodepths5_16
  have hinodepths5_16 : ¬ ((4 : Int32) < 0 ∨ clodepths5_16.slots.size ≤ ((4 : Int32)).toNatClampNeg) := inb_of Sodepths5_16 ⟨by decide, by decide⟩
  obtain ⟨Todepths5_16, hodepths5_16, Xodepths5_16, eodepths5_16, Wodepths5_16, stodepths5_16⟩ := stI Xkdepths5_15 hx hZ ekdepths5_15 Arodepths5_16 (j := (4 : Int32)) hinodepths5_16 (g := (mkF m 171 #[.val (.int (5 : Int32)), .val (.int pdepths5_1)] [(.int (own_j9_0 pdepths5_1 (4 : Int32))), (.int (4 : Int32)), (.ref bndepths5_1), (.ref bndepths5_1)])) rfl rfl (hb hby own_d3_171)
  have Vwodepths5_16 : Arv Z hodepths5_16 bndepths5_1 kndepths5_1 .int (5 : Int32) [(.int (own_vdepths5_0 pdepths5_1)), (.int (own_vdepths5_1 pdepths5_1)), (.int (own_vdepths5_2 pdepths5_1)), (.int (own_vdepths5_3 pdepths5_1)), (.int (own_vdepths5_4 pdepths5_1))] (.int (0 : Int32)) := Arv.set Arodepths5_16 qodepths5_16 Sodepths5_16 Nodepths5_16 Hodepths5_16 Godepths5_16 rfl Wodepths5_16 4 rfl (Nat.le_of_ble_eq_true rfl)
  have szdepths5_17 : h0.size ≤ hodepths5_16.size := Nat.le_trans szdepths5_14 (Nat.le_of_eq Wodepths5_16.size.symm)
  have Nfodepths5_16 := Fr.snoc Xodepths5_16 Nkdepths5_15 g_bndepths5_1
  obtain ⟨fs, hr, hrun, hended, hW, hsame⟩ := Xodepths5_16.leave (v := some (.ref bndepths5_1)) (fun h => by rw [Bd.returns] at h; cases h)
  refine ⟨_, _, pre0 _ (?_), hrun, hended, _, _, rfl, ?_, ⟨_, rfl⟩, hW, hsame.mono (by decide) (by decide)⟩
  · show Steps p.tables e below (s₁.setTop (mkF m 0 #[.val (.int (5 : Int32)), .val (.int pdepths5_1)] [])) _
    refine XS.iloadN X0.here hx rfl (hb hby own_d3_0) rfl ?_
    refine XS.ifYes X0.here hx rfl (pc0 := 1) (pc' := 8) rfl (hb hby own_d3_1) rfl (XT.i0_ne_t (by decide : ¬ ((5 : Int32) = (0 : Int32)))) (by decide) (by decide) ?_
    refine XS.iloadN X0.here hx rfl (hb hby own_d3_8) rfl ?_
    refine XS.iconst X0.here hx rfl (hb hby own_d3_9) ?_
    refine XS.icmpYes X0.here hx rfl (pc0 := 10) (pc' := 25) rfl (hb hby own_d3_10) rfl (XT.ii_ne_t (by decide : ¬ ((5 : Int32) = (1 : Int32)))) (by decide) (by decide) ?_
    refine XS.iloadN X0.here hx rfl (hb hby own_d3_25) rfl ?_
    refine XS.iconst X0.here hx rfl (hb hby own_d3_26) ?_
    refine XS.icmpYes X0.here hx rfl (pc0 := 27) (pc' := 50) rfl (hb hby own_d3_27) rfl (XT.ii_ne_t (by decide : ¬ ((5 : Int32) = (2 : Int32)))) (by decide) (by decide) ?_
    refine XS.iloadN X0.here hx rfl (hb hby own_d3_50) rfl ?_
    refine XS.iconst X0.here hx rfl (hb hby own_d3_51) ?_
    refine XS.icmpYes X0.here hx rfl (pc0 := 52) (pc' := 83) rfl (hb hby own_d3_52) rfl (XT.ii_ne_t (by decide : ¬ ((5 : Int32) = (3 : Int32)))) (by decide) (by decide) ?_
    refine XS.iloadN X0.here hx rfl (hb hby own_d3_83) rfl ?_
    refine XS.iconst X0.here hx rfl (hb hby own_d3_84) ?_
    refine XS.icmpYes X0.here hx rfl (pc0 := 85) (pc' := 124) rfl (hb hby own_d3_85) rfl (XT.ii_ne_t (by decide : ¬ ((5 : Int32) = (4 : Int32)))) (by decide) (by decide) ?_
    refine XS.iloadN X0.here hx rfl (hb hby own_d3_124) rfl ?_
    refine XS.iconst X0.here hx rfl (hb hby own_d3_125) ?_
    refine XS.icmpNo X0.here hx rfl (hb hby own_d3_126) rfl (XT.ii_ne_f (by decide : (5 : Int32) = (5 : Int32))) ?_
    refine XS.iconst X0.here hx rfl (hb hby own_d3_129) ?_
    refine stndepths5_1 _ ?_
    show Steps p.tables e below (Tndepths5_1.setTop (mkF m 132 #[.val (.int (5 : Int32)), .val (.int pdepths5_1)] [(.ref bndepths5_1)])) _
    refine XS.dup Xndepths5_1.here hx rfl (hb hby own_d3_132) rfl rfl ?_
    refine XS.iconst Xndepths5_1.here hx rfl (hb hby own_d3_133) ?_
    refine XS.iloadN Xndepths5_1.here hx rfl (hb hby own_d3_134) rfl ?_
    refine XS.iconst Xndepths5_1.here hx rfl (hb hby own_d3_135) ?_
    refine stkdepths5_3 _ ?_
    show Steps p.tables e below (Tkdepths5_3.setTop (mkF m 139 #[.val (.int (5 : Int32)), .val (.int pdepths5_1)] [(.int (own_j9_0 pdepths5_1 (0 : Int32))), (.int (0 : Int32)), (.ref bndepths5_1), (.ref bndepths5_1)])) _
    refine stodepths5_4 _ ?_
    show Steps p.tables e below (Todepths5_4.setTop (mkF m 140 #[.val (.int (5 : Int32)), .val (.int pdepths5_1)] [(.ref bndepths5_1)])) _
    refine XS.dup Xodepths5_4.here hx rfl (hb hby own_d3_140) rfl rfl ?_
    refine XS.iconst Xodepths5_4.here hx rfl (hb hby own_d3_141) ?_
    refine XS.iloadN Xodepths5_4.here hx rfl (hb hby own_d3_142) rfl ?_
    refine XS.iconst Xodepths5_4.here hx rfl (hb hby own_d3_143) ?_
    refine stkdepths5_6 _ ?_
    show Steps p.tables e below (Tkdepths5_6.setTop (mkF m 147 #[.val (.int (5 : Int32)), .val (.int pdepths5_1)] [(.int (own_j9_0 pdepths5_1 (1 : Int32))), (.int (1 : Int32)), (.ref bndepths5_1), (.ref bndepths5_1)])) _
    refine stodepths5_7 _ ?_
    show Steps p.tables e below (Todepths5_7.setTop (mkF m 148 #[.val (.int (5 : Int32)), .val (.int pdepths5_1)] [(.ref bndepths5_1)])) _
    refine XS.dup Xodepths5_7.here hx rfl (hb hby own_d3_148) rfl rfl ?_
    refine XS.iconst Xodepths5_7.here hx rfl (hb hby own_d3_149) ?_
    refine XS.iloadN Xodepths5_7.here hx rfl (hb hby own_d3_150) rfl ?_
    refine XS.iconst Xodepths5_7.here hx rfl (hb hby own_d3_151) ?_
    refine stkdepths5_9 _ ?_
    show Steps p.tables e below (Tkdepths5_9.setTop (mkF m 155 #[.val (.int (5 : Int32)), .val (.int pdepths5_1)] [(.int (own_j9_0 pdepths5_1 (2 : Int32))), (.int (2 : Int32)), (.ref bndepths5_1), (.ref bndepths5_1)])) _
    refine stodepths5_10 _ ?_
    show Steps p.tables e below (Todepths5_10.setTop (mkF m 156 #[.val (.int (5 : Int32)), .val (.int pdepths5_1)] [(.ref bndepths5_1)])) _
    refine XS.dup Xodepths5_10.here hx rfl (hb hby own_d3_156) rfl rfl ?_
    refine XS.iconst Xodepths5_10.here hx rfl (hb hby own_d3_157) ?_
    refine XS.iloadN Xodepths5_10.here hx rfl (hb hby own_d3_158) rfl ?_
    refine XS.iconst Xodepths5_10.here hx rfl (hb hby own_d3_159) ?_
    refine stkdepths5_12 _ ?_
    show Steps p.tables e below (Tkdepths5_12.setTop (mkF m 163 #[.val (.int (5 : Int32)), .val (.int pdepths5_1)] [(.int (own_j9_0 pdepths5_1 (3 : Int32))), (.int (3 : Int32)), (.ref bndepths5_1), (.ref bndepths5_1)])) _
    refine stodepths5_13 _ ?_
    show Steps p.tables e below (Todepths5_13.setTop (mkF m 164 #[.val (.int (5 : Int32)), .val (.int pdepths5_1)] [(.ref bndepths5_1)])) _
    refine XS.dup Xodepths5_13.here hx rfl (hb hby own_d3_164) rfl rfl ?_
    refine XS.iconst Xodepths5_13.here hx rfl (hb hby own_d3_165) ?_
    refine XS.iloadN Xodepths5_13.here hx rfl (hb hby own_d3_166) rfl ?_
    refine XS.iconst Xodepths5_13.here hx rfl (hb hby own_d3_167) ?_
    refine stkdepths5_15 _ ?_
    show Steps p.tables e below (Tkdepths5_15.setTop (mkF m 171 #[.val (.int (5 : Int32)), .val (.int pdepths5_1)] [(.int (own_j9_0 pdepths5_1 (4 : Int32))), (.int (4 : Int32)), (.ref bndepths5_1), (.ref bndepths5_1)])) _
    refine stodepths5_16 _ ?_
    show Steps p.tables e below (Todepths5_16.setTop (mkF m 172 #[.val (.int (5 : Int32)), .val (.int pdepths5_1)] [(.ref bndepths5_1)])) _
    jvm_step Xodepths5_16.here [Xodepths5_16.here.top, hx, (hb hby own_d3_172), Xodepths5_16.method', Bd.returns, Value.isRef, FieldType.isReference]
    first | (intro acts; rw [hr _ acts rfl rfl rfl]) | rw [hr _ _ rfl rfl rfl]
    exact Steps.refl _
  · show own_Qdepths5 Z pdepths5_1 h0 n0 _ Todepths5_16.heap _
    rw [eodepths5_16]
    exact ⟨bndepths5_1, kndepths5_1, rfl, Nfodepths5_16, (((((((Keep.refl h0 []).ext Endepths5_1).wr Wodepths5_4 (Or.inr sz_bndepths5_1)).wr Wodepths5_7 (Or.inr sz_bndepths5_1)).wr Wodepths5_10 (Or.inr sz_bndepths5_1)).wr Wodepths5_13 (Or.inr sz_bndepths5_1)).wr Wodepths5_16 (Or.inr sz_bndepths5_1)), sz_bndepths5_1, Vwodepths5_16⟩
theorem own_d3_173 : decode method_5_code 173 = .ok (.bipush 6, 2) := by decide +kernel
theorem own_d3_175 : decode method_5_code 175 = .ok (.newarray .int, 2) := by decide +kernel
theorem own_d3_177 : decode method_5_code 177 = .ok (.dup, 1) := by decide +kernel
theorem own_d3_178 : decode method_5_code 178 = .ok (.iconst 0, 1) := by decide +kernel
theorem own_d3_179 : decode method_5_code 179 = .ok (.iload_n 1, 1) := by decide +kernel
theorem own_d3_180 : decode method_5_code 180 = .ok (.iconst 0, 1) := by decide +kernel
theorem own_d3_181 : decode method_5_code 181 = .ok (.invokestatic 13, 3) := by decide +kernel
theorem own_d3_184 : decode method_5_code 184 = .ok (.iastore, 1) := by decide +kernel
theorem own_d3_185 : decode method_5_code 185 = .ok (.dup, 1) := by decide +kernel
theorem own_d3_186 : decode method_5_code 186 = .ok (.iconst 1, 1) := by decide +kernel
theorem own_d3_187 : decode method_5_code 187 = .ok (.iload_n 1, 1) := by decide +kernel
theorem own_d3_188 : decode method_5_code 188 = .ok (.iconst 1, 1) := by decide +kernel
theorem own_d3_189 : decode method_5_code 189 = .ok (.invokestatic 13, 3) := by decide +kernel
theorem own_d3_192 : decode method_5_code 192 = .ok (.iastore, 1) := by decide +kernel
theorem own_d3_193 : decode method_5_code 193 = .ok (.dup, 1) := by decide +kernel
theorem own_d3_194 : decode method_5_code 194 = .ok (.iconst 2, 1) := by decide +kernel
theorem own_d3_195 : decode method_5_code 195 = .ok (.iload_n 1, 1) := by decide +kernel
theorem own_d3_196 : decode method_5_code 196 = .ok (.iconst 2, 1) := by decide +kernel
theorem own_d3_197 : decode method_5_code 197 = .ok (.invokestatic 13, 3) := by decide +kernel
theorem own_d3_200 : decode method_5_code 200 = .ok (.iastore, 1) := by decide +kernel
theorem own_d3_201 : decode method_5_code 201 = .ok (.dup, 1) := by decide +kernel
theorem own_d3_202 : decode method_5_code 202 = .ok (.iconst 3, 1) := by decide +kernel
theorem own_d3_203 : decode method_5_code 203 = .ok (.iload_n 1, 1) := by decide +kernel
theorem own_d3_204 : decode method_5_code 204 = .ok (.iconst 3, 1) := by decide +kernel
theorem own_d3_205 : decode method_5_code 205 = .ok (.invokestatic 13, 3) := by decide +kernel
theorem own_d3_208 : decode method_5_code 208 = .ok (.iastore, 1) := by decide +kernel
theorem own_d3_209 : decode method_5_code 209 = .ok (.dup, 1) := by decide +kernel
theorem own_d3_210 : decode method_5_code 210 = .ok (.iconst 4, 1) := by decide +kernel
theorem own_d3_211 : decode method_5_code 211 = .ok (.iload_n 1, 1) := by decide +kernel
theorem own_d3_212 : decode method_5_code 212 = .ok (.iconst 4, 1) := by decide +kernel
theorem own_d3_213 : decode method_5_code 213 = .ok (.invokestatic 13, 3) := by decide +kernel
theorem own_d3_216 : decode method_5_code 216 = .ok (.iastore, 1) := by decide +kernel
theorem own_d3_217 : decode method_5_code 217 = .ok (.dup, 1) := by decide +kernel
theorem own_d3_218 : decode method_5_code 218 = .ok (.iconst 5, 1) := by decide +kernel
theorem own_d3_219 : decode method_5_code 219 = .ok (.iload_n 1, 1) := by decide +kernel
theorem own_d3_220 : decode method_5_code 220 = .ok (.iconst 5, 1) := by decide +kernel
theorem own_d3_221 : decode method_5_code 221 = .ok (.invokestatic 13, 3) := by decide +kernel
theorem own_d3_224 : decode method_5_code 224 = .ok (.iastore, 1) := by decide +kernel
theorem own_d3_225 : decode method_5_code 225 = .ok (.areturn, 1) := by decide +kernel
def own_vdepths6_0 (pdepths6_1 : Int32) : Int32 := (own_j9_0 pdepths6_1 (0 : Int32))
def own_vdepths6_1 (pdepths6_1 : Int32) : Int32 := (own_j9_0 pdepths6_1 (1 : Int32))
def own_vdepths6_2 (pdepths6_1 : Int32) : Int32 := (own_j9_0 pdepths6_1 (2 : Int32))
def own_vdepths6_3 (pdepths6_1 : Int32) : Int32 := (own_j9_0 pdepths6_1 (3 : Int32))
def own_vdepths6_4 (pdepths6_1 : Int32) : Int32 := (own_j9_0 pdepths6_1 (4 : Int32))
def own_vdepths6_5 (pdepths6_1 : Int32) : Int32 := (own_j9_0 pdepths6_1 (5 : Int32))
theorem own_efdepths6 (m : MethodId) (pdepths6_1 : Int32) : entryFrame m #[(.int (6 : Int32)), (.int pdepths6_1)] 2 = mkF m 0 #[.val (.int (6 : Int32)), .val (.int pdepths6_1)] [] := by first | (simp [entryFrame, mkF, argsToLocals, Value.category]; done) | rfl
def own_Qdepths6 (Z : State) (pdepths6_1 : Int32) (h0 : Heap) (n0 : Nat) (v : Option Value) (h : Heap) (L : List Loc) : Prop := ∃ (bndepths6_1 : Addr) (kndepths6_1 : ClassId), v = some (.ref bndepths6_1) ∧ Fr n0 L ∧ Keep h0 h [] ∧ h0.size ≤ bndepths6_1 ∧ Arv Z h bndepths6_1 kndepths6_1 .int (6 : Int32) [(.int (own_vdepths6_0 pdepths6_1)), (.int (own_vdepths6_1 pdepths6_1)), (.int (own_vdepths6_2 pdepths6_1)), (.int (own_vdepths6_3 pdepths6_1)), (.int (own_vdepths6_4 pdepths6_1)), (.int (own_vdepths6_5 pdepths6_1))] (.int (0 : Int32))
set_option maxRecDepth 65536 in
set_option maxHeartbeats 40000000 in
theorem own_rmdepths6 (l : Launch) (Z : State) (a0 : Array Value) (hw : ∀ d ∈ tables_1, d.before a0 Z = true) (ws : List Jvm.Cond) (pdepths6_1 : Int32) (h0 : Heap) (n0 : Nat) (Z0 : n0 ≤ h0.size) :
    MetFree l (⟨"com/example/arborway/arborway/sim/WalkRunningCountPinLaw", "depths", "(II)[I"⟩ : MethodName) (head1 (Jvm.Cond.code (⟨"com/example/arborway/arborway/sim/WalkRunningCountPinLaw", "depths", "(II)[I"⟩ : MethodName) method_5_code 2 (some (.array .int)) :: ws) ({ frames := 2, cells := 1, slots := 6, locals := 29 } : Room)) (fun a U => a = #[(.int (6 : Int32)), (.int pdepths6_1)] ∧ Z.Warmed39 U.vm ∧ U.heap = h0) (fun _ _ _ _ _ => True) (fun _ U o U' => ∃ v L, o = .returned v ∧ own_Qdepths6 Z pdepths6_1 h0 n0 v U'.heap L ∧ FrameEnd U o U' L ({ frames := 2, cells := 1, slots := 6, locals := 29 } : Room).cells ({ frames := 2, cells := 1, slots := 6, locals := 29 } : Room).slots) := by
  refine MetFree.of_bodySF (plainFor_of_name own_pn0) hisR ?_
  intro p e s m args below meth c s₁ Bd hml0 hP hK
  obtain ⟨rfl, hZ, hh⟩ := hP
  have hx := Bd.exec
  have hby := Bd.bytes
  have hml : c.maxLocals = 2 := hml0
  have hown : s.vm.findClass "com/example/arborway/arborway/sim/WalkRunningCountPinLaw" = some m.cls := findClass_of_methodNamed Bd.named
  have hnm := (name_of_methodNamed Bd.named Bd.method).1
  have X0 : Stand p l e ({ frames := 2, cells := 1, slots := 6, locals := 29 } : Room) s m #[(.int (6 : Int32)), (.int pdepths6_1)] below meth c s₁ [] 0 0 := Stand.of_body Bd
  have e0 : s₁.heap = h0 := by rw [← hh, Bd.state]; rfl
  have N0 := Fr.nil n0
  have Zr : h0.size ≤ h0.size := Nat.le_refl _
  have pre0 : ∀ t, Steps p.tables e below (s₁.setTop (mkF m 0 #[.val (.int (6 : Int32)), .val (.int pdepths6_1)] [])) t → Steps p.tables e below (s₁.setTop (entryFrame m #[(.int (6 : Int32)), (.int pdepths6_1)] 2)) t := fun t k => castTop (own_efdepths6 m pdepths6_1) k
  obtain ⟨Tndepths6_1, hndepths6_1, kndepths6_1, Xndepths6_1, endepths6_1, Endepths6_1, Andepths6_1, stndepths6_1⟩ := newP X0 hx hZ (own_W hw 12 rfl) e0 (g := (mkF m 175 #[.val (.int (6 : Int32)), .val (.int pdepths6_1)] [(.int (6 : Int32))])) rfl (hb hby own_d3_175) rfl (by decide) (cap := 6) (by decide) (by decide) (by decide) (by decide)
  obtain ⟨bndepths6_1, gndepths6_1⟩ : ∃ z, z = h0.size := ⟨_, rfl⟩
  rw [← gndepths6_1] at Andepths6_1 stndepths6_1
  have g_bndepths6_1 : n0 ≤ bndepths6_1 := Nat.le_trans Z0 (Nat.le_of_eq gndepths6_1.symm)
  have sz_bndepths6_1 : h0.size ≤ bndepths6_1 := Nat.le_trans Zr (Nat.le_of_eq gndepths6_1.symm)
  have szdepths6_2 : h0.size ≤ hndepths6_1.size := Nat.le_trans Zr Endepths6_1.1
  have V_bndepths6_1 : Arv Z hndepths6_1 bndepths6_1 kndepths6_1 .int (6 : Int32) [(.int (0 : Int32)), (.int (0 : Int32)), (.int (0 : Int32)), (.int (0 : Int32)), (.int (0 : Int32)), (.int (0 : Int32))] (.int (0 : Int32)) := (Arv.new Andepths6_1 (by decide)).pad (pad_rep [] (.int (0 : Int32)) 6)
  obtain ⟨_, _, ⟨Tkdepths6_3, Lkdepths6_3, kkdepths6_3, nkdepths6_3⟩, -, Xkdepths6_3, ⟨Lckdepths6_3, hQkdepths6_3, lkdepths6_3, ykdepths6_3, zkdepths6_3⟩, stkdepths6_3⟩ := Jvm.LawKit.callS Xndepths6_1 hx (y := (⟨"com/example/arborway/arborway/sim/WalkRunningCountPinLaw", "dep", "(II)I"⟩ : MethodName)) hown (mvT hZ (own_W hw 44 rfl)) (mvT hZ (own_W hw 45 rfl)) (mvT hZ (own_W hw 3 rfl)) (mvT hZ (own_W hw 46 rfl)) (by decide) (backOf (W := 3) (own_rm9 l Z a0 hw [] pdepths6_1 (0 : Int32) hndepths6_1 n0 (Nat.le_trans Z0 szdepths6_2)) hZ (own_W hw 46 rfl) (own_W hw 3 rfl) (by decide) (by decide)) (g := (mkF m 181 #[.val (.int (6 : Int32)), .val (.int pdepths6_1)] [(.int (0 : Int32)), (.int pdepths6_1), (.int (0 : Int32)), (.ref bndepths6_1), (.ref bndepths6_1)])) rfl (by rw [hml]; rfl) (argsL := [(.int pdepths6_1), (.int (0 : Int32))]) (rest := [(.int (0 : Int32)), (.ref bndepths6_1), (.ref bndepths6_1)]) (lenOf own_pd2 rfl) rfl (by show 2 * 0 + _ ≤ _; exact Nat.le_of_eq rfl) (hb hby own_d3_181) (fun _ _ => ⟨rfl, endepths6_1, (by decide : 1 + 0 ≤ _), (by decide : 6 + 0 ≤ _)⟩)
  dsimp only [Pt.U, Pt.locs, Pt.cells, Pt.slots] at Xkdepths6_3 lkdepths6_3 ykdepths6_3 zkdepths6_3 stkdepths6_3 hQkdepths6_3
  replace lkdepths6_3 := lkdepths6_3.symm; replace ykdepths6_3 := ykdepths6_3.symm; replace zkdepths6_3 := zkdepths6_3.symm; subst lkdepths6_3 ykdepths6_3 zkdepths6_3
  obtain ⟨rfl, Nkdepths6_3q, ekdepths6_3⟩ := hQkdepths6_3
  have Nkdepths6_3 := Fr.app N0 Nkdepths6_3q
  have Oodepths6_4 := V_bndepths6_1
  obtain ⟨clodepths6_4, Arodepths6_4, qodepths6_4, Sodepths6_4, Nodepths6_4, Hodepths6_4, Godepths6_4⟩ := Oodepths6_4
  have hinodepths6_4 : ¬ ((0 : Int32) < 0 ∨ clodepths6_4.slots.size ≤ ((0 : Int32)).toNatClampNeg) := inb_of Sodepths6_4 ⟨by decide, by decide⟩
  obtain ⟨Todepths6_4, hodepths6_4, Xodepths6_4, eodepths6_4, Wodepths6_4, stodepths6_4⟩ := stI Xkdepths6_3 hx hZ ekdepths6_3 Arodepths6_4 (j := (0 : Int32)) hinodepths6_4 (g := (mkF m 184 #[.val (.int (6 : Int32)), .val (.int pdepths6_1)] [(.int (own_j9_0 pdepths6_1 (0 : Int32))), (.int (0 : Int32)), (.ref bndepths6_1), (.ref bndepths6_1)])) rfl rfl (hb hby own_d3_184)
  have Vwodepths6_4 : Arv Z hodepths6_4 bndepths6_1 kndepths6_1 .int (6 : Int32) [(.int (own_vdepths6_0 pdepths6_1)), (.int (0 : Int32)), (.int (0 : Int32)), (.int (0 : Int32)), (.int (0 : Int32)), (.int (0 : Int32))] (.int (0 : Int32)) := Arv.set Arodepths6_4 qodepths6_4 Sodepths6_4 Nodepths6_4 Hodepths6_4 Godepths6_4 rfl Wodepths6_4 0 rfl (Nat.le_of_ble_eq_true rfl)
  have szdepths6_5 : h0.size ≤ hodepths6_4.size := Nat.le_trans szdepths6_2 (Nat.le_of_eq Wodepths6_4.size.symm)
  have Nfodepths6_4 := Fr.snoc Xodepths6_4 Nkdepths6_3 g_bndepths6_1
  obtain ⟨_, _, ⟨Tkdepths6_6, Lkdepths6_6, kkdepths6_6, nkdepths6_6⟩, -, Xkdepths6_6, ⟨Lckdepths6_6, hQkdepths6_6, lkdepths6_6, ykdepths6_6, zkdepths6_6⟩, stkdepths6_6⟩ := Jvm.LawKit.callS Xodepths6_4 hx (y := (⟨"com/example/arborway/arborway/sim/WalkRunningCountPinLaw", "dep", "(II)I"⟩ : MethodName)) hown (mvT hZ (own_W hw 44 rfl)) (mvT hZ (own_W hw 45 rfl)) (mvT hZ (own_W hw 3 rfl)) (mvT hZ (own_W hw 46 rfl)) (by decide) (backOf (W := 3) (own_rm9 l Z a0 hw [] pdepths6_1 (1 : Int32) hodepths6_4 n0 (Nat.le_trans Z0 szdepths6_5)) hZ (own_W hw 46 rfl) (own_W hw 3 rfl) (by decide) (by decide)) (g := (mkF m 189 #[.val (.int (6 : Int32)), .val (.int pdepths6_1)] [(.int (1 : Int32)), (.int pdepths6_1), (.int (1 : Int32)), (.ref bndepths6_1), (.ref bndepths6_1)])) rfl (by rw [hml]; rfl) (argsL := [(.int pdepths6_1), (.int (1 : Int32))]) (rest := [(.int (1 : Int32)), (.ref bndepths6_1), (.ref bndepths6_1)]) (lenOf own_pd2 rfl) rfl (by show 2 * 0 + _ ≤ _; exact Nat.le_of_eq rfl) (hb hby own_d3_189) (fun _ _ => ⟨rfl, eodepths6_4, (by decide : 1 + 0 ≤ _), (by decide : 6 + 0 ≤ _)⟩)
  dsimp only [Pt.U, Pt.locs, Pt.cells, Pt.slots] at Xkdepths6_6 lkdepths6_6 ykdepths6_6 zkdepths6_6 stkdepths6_6 hQkdepths6_6
  replace lkdepths6_6 := lkdepths6_6.symm; replace ykdepths6_6 := ykdepths6_6.symm; replace zkdepths6_6 := zkdepths6_6.symm; subst lkdepths6_6 ykdepths6_6 zkdepths6_6
  obtain ⟨rfl, Nkdepths6_6q, ekdepths6_6⟩ := hQkdepths6_6
  have Nkdepths6_6 := Fr.app Nfodepths6_4 Nkdepths6_6q
  have Oodepths6_7 := Vwodepths6_4
  obtain ⟨clodepths6_7, Arodepths6_7, qodepths6_7, Sodepths6_7, Nodepths6_7, Hodepths6_7, Godepths6_7⟩ := Oodepths6_7
  have hinodepths6_7 : ¬ ((1 : Int32) < 0 ∨ clodepths6_7.slots.size ≤ ((1 : Int32)).toNatClampNeg) := inb_of Sodepths6_7 ⟨by decide, by decide⟩
  obtain ⟨Todepths6_7, hodepths6_7, Xodepths6_7, eodepths6_7, Wodepths6_7, stodepths6_7⟩ := stI Xkdepths6_6 hx hZ ekdepths6_6 Arodepths6_7 (j := (1 : Int32)) hinodepths6_7 (g := (mkF m 192 #[.val (.int (6 : Int32)), .val (.int pdepths6_1)] [(.int (own_j9_0 pdepths6_1 (1 : Int32))), (.int (1 : Int32)), (.ref bndepths6_1), (.ref bndepths6_1)])) rfl rfl (hb hby own_d3_192)
  have Vwodepths6_7 : Arv Z hodepths6_7 bndepths6_1 kndepths6_1 .int (6 : Int32) [(.int (own_vdepths6_0 pdepths6_1)), (.int (own_vdepths6_1 pdepths6_1)), (.int (0 : Int32)), (.int (0 : Int32)), (.int (0 : Int32)), (.int (0 : Int32))] (.int (0 : Int32)) := Arv.set Arodepths6_7 qodepths6_7 Sodepths6_7 Nodepths6_7 Hodepths6_7 Godepths6_7 rfl Wodepths6_7 1 rfl (Nat.le_of_ble_eq_true rfl)
  have szdepths6_8 : h0.size ≤ hodepths6_7.size := Nat.le_trans szdepths6_5 (Nat.le_of_eq Wodepths6_7.size.symm)
  have Nfodepths6_7 := Fr.snoc Xodepths6_7 Nkdepths6_6 g_bndepths6_1
  obtain ⟨_, _, ⟨Tkdepths6_9, Lkdepths6_9, kkdepths6_9, nkdepths6_9⟩, -, Xkdepths6_9, ⟨Lckdepths6_9, hQkdepths6_9, lkdepths6_9, ykdepths6_9, zkdepths6_9⟩, stkdepths6_9⟩ := Jvm.LawKit.callS Xodepths6_7 hx (y := (⟨"com/example/arborway/arborway/sim/WalkRunningCountPinLaw", "dep", "(II)I"⟩ : MethodName)) hown (mvT hZ (own_W hw 44 rfl)) (mvT hZ (own_W hw 45 rfl)) (mvT hZ (own_W hw 3 rfl)) (mvT hZ (own_W hw 46 rfl)) (by decide) (backOf (W := 3) (own_rm9 l Z a0 hw [] pdepths6_1 (2 : Int32) hodepths6_7 n0 (Nat.le_trans Z0 szdepths6_8)) hZ (own_W hw 46 rfl) (own_W hw 3 rfl) (by decide) (by decide)) (g := (mkF m 197 #[.val (.int (6 : Int32)), .val (.int pdepths6_1)] [(.int (2 : Int32)), (.int pdepths6_1), (.int (2 : Int32)), (.ref bndepths6_1), (.ref bndepths6_1)])) rfl (by rw [hml]; rfl) (argsL := [(.int pdepths6_1), (.int (2 : Int32))]) (rest := [(.int (2 : Int32)), (.ref bndepths6_1), (.ref bndepths6_1)]) (lenOf own_pd2 rfl) rfl (by show 2 * 0 + _ ≤ _; exact Nat.le_of_eq rfl) (hb hby own_d3_197) (fun _ _ => ⟨rfl, eodepths6_7, (by decide : 1 + 0 ≤ _), (by decide : 6 + 0 ≤ _)⟩)
  dsimp only [Pt.U, Pt.locs, Pt.cells, Pt.slots] at Xkdepths6_9 lkdepths6_9 ykdepths6_9 zkdepths6_9 stkdepths6_9 hQkdepths6_9
  replace lkdepths6_9 := lkdepths6_9.symm; replace ykdepths6_9 := ykdepths6_9.symm; replace zkdepths6_9 := zkdepths6_9.symm; subst lkdepths6_9 ykdepths6_9 zkdepths6_9
  obtain ⟨rfl, Nkdepths6_9q, ekdepths6_9⟩ := hQkdepths6_9
  have Nkdepths6_9 := Fr.app Nfodepths6_7 Nkdepths6_9q
  have Oodepths6_10 := Vwodepths6_7
  obtain ⟨clodepths6_10, Arodepths6_10, qodepths6_10, Sodepths6_10, Nodepths6_10, Hodepths6_10, Godepths6_10⟩ := Oodepths6_10
  have hinodepths6_10 : ¬ ((2 : Int32) < 0 ∨ clodepths6_10.slots.size ≤ ((2 : Int32)).toNatClampNeg) := inb_of Sodepths6_10 ⟨by decide, by decide⟩
  obtain ⟨Todepths6_10, hodepths6_10, Xodepths6_10, eodepths6_10, Wodepths6_10, stodepths6_10⟩ := stI Xkdepths6_9 hx hZ ekdepths6_9 Arodepths6_10 (j := (2 : Int32)) hinodepths6_10 (g := (mkF m 200 #[.val (.int (6 : Int32)), .val (.int pdepths6_1)] [(.int (own_j9_0 pdepths6_1 (2 : Int32))), (.int (2 : Int32)), (.ref bndepths6_1), (.ref bndepths6_1)])) rfl rfl (hb hby own_d3_200)
  have Vwodepths6_10 : Arv Z hodepths6_10 bndepths6_1 kndepths6_1 .int (6 : Int32) [(.int (own_vdepths6_0 pdepths6_1)), (.int (own_vdepths6_1 pdepths6_1)), (.int (own_vdepths6_2 pdepths6_1)), (.int (0 : Int32)), (.int (0 : Int32)), (.int (0 : Int32))] (.int (0 : Int32)) := Arv.set Arodepths6_10 qodepths6_10 Sodepths6_10 Nodepths6_10 Hodepths6_10 Godepths6_10 rfl Wodepths6_10 2 rfl (Nat.le_of_ble_eq_true rfl)
  have szdepths6_11 : h0.size ≤ hodepths6_10.size := Nat.le_trans szdepths6_8 (Nat.le_of_eq Wodepths6_10.size.symm)
  have Nfodepths6_10 := Fr.snoc Xodepths6_10 Nkdepths6_9 g_bndepths6_1
  obtain ⟨_, _, ⟨Tkdepths6_12, Lkdepths6_12, kkdepths6_12, nkdepths6_12⟩, -, Xkdepths6_12, ⟨Lckdepths6_12, hQkdepths6_12, lkdepths6_12, ykdepths6_12, zkdepths6_12⟩, stkdepths6_12⟩ := Jvm.LawKit.callS Xodepths6_10 hx (y := (⟨"com/example/arborway/arborway/sim/WalkRunningCountPinLaw", "dep", "(II)I"⟩ : MethodName)) hown (mvT hZ (own_W hw 44 rfl)) (mvT hZ (own_W hw 45 rfl)) (mvT hZ (own_W hw 3 rfl)) (mvT hZ (own_W hw 46 rfl)) (by decide) (backOf (W := 3) (own_rm9 l Z a0 hw [] pdepths6_1 (3 : Int32) hodepths6_10 n0 (Nat.le_trans Z0 szdepths6_11)) hZ (own_W hw 46 rfl) (own_W hw 3 rfl) (by decide) (by decide)) (g := (mkF m 205 #[.val (.int (6 : Int32)), .val (.int pdepths6_1)] [(.int (3 : Int32)), (.int pdepths6_1), (.int (3 : Int32)), (.ref bndepths6_1), (.ref bndepths6_1)])) rfl (by rw [hml]; rfl) (argsL := [(.int pdepths6_1), (.int (3 : Int32))]) (rest := [(.int (3 : Int32)), (.ref bndepths6_1), (.ref bndepths6_1)]) (lenOf own_pd2 rfl) rfl (by show 2 * 0 + _ ≤ _; exact Nat.le_of_eq rfl) (hb hby own_d3_205) (fun _ _ => ⟨rfl, eodepths6_10, (by decide : 1 + 0 ≤ _), (by decide : 6 + 0 ≤ _)⟩)
  dsimp only [Pt.U, Pt.locs, Pt.cells, Pt.slots] at Xkdepths6_12 lkdepths6_12 ykdepths6_12 zkdepths6_12 stkdepths6_12 hQkdepths6_12
  replace lkdepths6_12 := lkdepths6_12.symm; replace ykdepths6_12 := ykdepths6_12.symm; replace zkdepths6_12 := zkdepths6_12.symm; subst lkdepths6_12 ykdepths6_12 zkdepths6_12
  obtain ⟨rfl, Nkdepths6_12q, ekdepths6_12⟩ := hQkdepths6_12
  have Nkdepths6_12 := Fr.app Nfodepths6_10 Nkdepths6_12q
  have Oodepths6_13 := Vwodepths6_10
  obtain ⟨clodepths6_13, Arodepths6_13, qodepths6_13, Sodepths6_13, Nodepths6_13, Hodepths6_13, Godepths6_13⟩ := Oodepths6_13
  have hinodepths6_13 : ¬ ((3 : Int32) < 0 ∨ clodepths6_13.slots.size ≤ ((3 : Int32)).toNatClampNeg) := inb_of Sodepths6_13 ⟨by decide, by decide⟩
  obtain ⟨Todepths6_13, hodepths6_13, Xodepths6_13, eodepths6_13, Wodepths6_13, stodepths6_13⟩ := stI Xkdepths6_12 hx hZ ekdepths6_12 Arodepths6_13 (j := (3 : Int32)) hinodepths6_13 (g := (mkF m 208 #[.val (.int (6 : Int32)), .val (.int pdepths6_1)] [(.int (own_j9_0 pdepths6_1 (3 : Int32))), (.int (3 : Int32)), (.ref bndepths6_1), (.ref bndepths6_1)])) rfl rfl (hb hby own_d3_208)
  have Vwodepths6_13 : Arv Z hodepths6_13 bndepths6_1 kndepths6_1 .int (6 : Int32) [(.int (own_vdepths6_0 pdepths6_1)), (.int (own_vdepths6_1 pdepths6_1)), (.int (own_vdepths6_2 pdepths6_1)), (.int (own_vdepths6_3 pdepths6_1)), (.int (0 : Int32)), (.int (0 : Int32))] (.int (0 : Int32)) := Arv.set Arodepths6_13 qodepths6_13 Sodepths6_13 Nodepths6_13 Hodepths6_13 Godepths6_13 rfl Wodepths6_13 3 rfl (Nat.le_of_ble_eq_true rfl)
  have szdepths6_14 : h0.size ≤ hodepths6_13.size := Nat.le_trans szdepths6_11 (Nat.le_of_eq Wodepths6_13.size.symm)
  have Nfodepths6_13 := Fr.snoc Xodepths6_13 Nkdepths6_12 g_bndepths6_1
  obtain ⟨_, _, ⟨Tkdepths6_15, Lkdepths6_15, kkdepths6_15, nkdepths6_15⟩, -, Xkdepths6_15, ⟨Lckdepths6_15, hQkdepths6_15, lkdepths6_15, ykdepths6_15, zkdepths6_15⟩, stkdepths6_15⟩ := Jvm.LawKit.callS Xodepths6_13 hx (y := (⟨"com/example/arborway/arborway/sim/WalkRunningCountPinLaw", "dep", "(II)I"⟩ : MethodName)) hown (mvT hZ (own_W hw 44 rfl)) (mvT hZ (own_W hw 45 rfl)) (mvT hZ (own_W hw 3 rfl)) (mvT hZ (own_W hw 46 rfl)) (by decide) (backOf (W := 3) (own_rm9 l Z a0 hw [] pdepths6_1 (4 : Int32) hodepths6_13 n0 (Nat.le_trans Z0 szdepths6_14)) hZ (own_W hw 46 rfl) (own_W hw 3 rfl) (by decide) (by decide)) (g := (mkF m 213 #[.val (.int (6 : Int32)), .val (.int pdepths6_1)] [(.int (4 : Int32)), (.int pdepths6_1), (.int (4 : Int32)), (.ref bndepths6_1), (.ref bndepths6_1)])) rfl (by rw [hml]; rfl) (argsL := [(.int pdepths6_1), (.int (4 : Int32))]) (rest := [(.int (4 : Int32)), (.ref bndepths6_1), (.ref bndepths6_1)]) (lenOf own_pd2 rfl) rfl (by show 2 * 0 + _ ≤ _; exact Nat.le_of_eq rfl) (hb hby own_d3_213) (fun _ _ => ⟨rfl, eodepths6_13, (by decide : 1 + 0 ≤ _), (by decide : 6 + 0 ≤ _)⟩)
  dsimp only [Pt.U, Pt.locs, Pt.cells, Pt.slots] at Xkdepths6_15 lkdepths6_15 ykdepths6_15 zkdepths6_15 stkdepths6_15 hQkdepths6_15
  replace lkdepths6_15 := lkdepths6_15.symm; replace ykdepths6_15 := ykdepths6_15.symm; replace zkdepths6_15 := zkdepths6_15.symm; subst lkdepths6_15 ykdepths6_15 zkdepths6_15
  obtain ⟨rfl, Nkdepths6_15q, ekdepths6_15⟩ := hQkdepths6_15
  have Nkdepths6_15 := Fr.app Nfodepths6_13 Nkdepths6_15q
  have Oodepths6_16 := Vwodepths6_13
  obtain ⟨clodepths6_16, Arodepths6_16, qodepths6_16, Sodepths6_16, Nodepths6_16, Hodepths6_16, Godepths6_16⟩ := Oodepths6_16
  have hinodepths6_16 : ¬ ((4 : Int32) < 0 ∨ clodepths6_16.slots.size ≤ ((4 : Int32)).toNatClampNeg) := inb_of Sodepths6_16 ⟨by decide, by decide⟩
  obtain ⟨Todepths6_16, hodepths6_16, Xodepths6_16, eodepths6_16, Wodepths6_16, stodepths6_16⟩ := stI Xkdepths6_15 hx hZ ekdepths6_15 Arodepths6_16 (j := (4 : Int32)) hinodepths6_16 (g := (mkF m 216 #[.val (.int (6 : Int32)), .val (.int pdepths6_1)] [(.int (own_j9_0 pdepths6_1 (4 : Int32))), (.int (4 : Int32)), (.ref bndepths6_1), (.ref bndepths6_1)])) rfl rfl (hb hby own_d3_216)
  have Vwodepths6_16 : Arv Z hodepths6_16 bndepths6_1 kndepths6_1 .int (6 : Int32) [(.int (own_vdepths6_0 pdepths6_1)), (.int (own_vdepths6_1 pdepths6_1)), (.int (own_vdepths6_2 pdepths6_1)), (.int (own_vdepths6_3 pdepths6_1)), (.int (own_vdepths6_4 pdepths6_1)), (.int (0 : Int32))] (.int (0 : Int32)) := Arv.set Arodepths6_16 qodepths6_16 Sodepths6_16 Nodepths6_16 Hodepths6_16 Godepths6_16 rfl Wodepths6_16 4 rfl (Nat.le_of_ble_eq_true rfl)
  have szdepths6_17 : h0.size ≤ hodepths6_16.size := Nat.le_trans szdepths6_14 (Nat.le_of_eq Wodepths6_16.size.symm)
  have Nfodepths6_16 := Fr.snoc Xodepths6_16 Nkdepths6_15 g_bndepths6_1
  obtain ⟨_, _, ⟨Tkdepths6_18, Lkdepths6_18, kkdepths6_18, nkdepths6_18⟩, -, Xkdepths6_18, ⟨Lckdepths6_18, hQkdepths6_18, lkdepths6_18, ykdepths6_18, zkdepths6_18⟩, stkdepths6_18⟩ := Jvm.LawKit.callS Xodepths6_16 hx (y := (⟨"com/example/arborway/arborway/sim/WalkRunningCountPinLaw", "dep", "(II)I"⟩ : MethodName)) hown (mvT hZ (own_W hw 44 rfl)) (mvT hZ (own_W hw 45 rfl)) (mvT hZ (own_W hw 3 rfl)) (mvT hZ (own_W hw 46 rfl)) (by decide) (backOf (W := 3) (own_rm9 l Z a0 hw [] pdepths6_1 (5 : Int32) hodepths6_16 n0 (Nat.le_trans Z0 szdepths6_17)) hZ (own_W hw 46 rfl) (own_W hw 3 rfl) (by decide) (by decide)) (g := (mkF m 221 #[.val (.int (6 : Int32)), .val (.int pdepths6_1)] [(.int (5 : Int32)), (.int pdepths6_1), (.int (5 : Int32)), (.ref bndepths6_1), (.ref bndepths6_1)])) rfl (by rw [hml]; rfl) (argsL := [(.int pdepths6_1), (.int (5 : Int32))]) (rest := [(.int (5 : Int32)), (.ref bndepths6_1), (.ref bndepths6_1)]) (lenOf own_pd2 rfl) rfl (by show 2 * 0 + _ ≤ _; exact Nat.le_of_eq rfl) (hb hby own_d3_221) (fun _ _ => ⟨rfl, eodepths6_16, (by decide : 1 + 0 ≤ _), (by decide : 6 + 0 ≤ _)⟩)
  dsimp only [Pt.U, Pt.locs, Pt.cells, Pt.slots] at Xkdepths6_18 lkdepths6_18 ykdepths6_18 zkdepths6_18 stkdepths6_18 hQkdepths6_18
  replace lkdepths6_18 := lkdepths6_18.symm; replace ykdepths6_18 := ykdepths6_18.symm; replace zkdepths6_18 := zkdepths6_18.symm; subst lkdepths6_18 ykdepths6_18 zkdepths6_18
  obtain ⟨rfl, Nkdepths6_18q, ekdepths6_18⟩ := hQkdepths6_18
  have Nkdepths6_18 := Fr.app Nfodepths6_16 Nkdepths6_18q
  have Oodepths6_19 := Vwodepths6_16
  obtain ⟨clodepths6_19, Arodepths6_19, qodepths6_19, Sodepths6_19, Nodepths6_19, Hodepths6_19, Godepths6_19⟩ := Oodepths6_19
  have hinodepths6_19 : ¬ ((5 : Int32) < 0 ∨ clodepths6_19.slots.size ≤ ((5 : Int32)).toNatClampNeg) := inb_of Sodepths6_19 ⟨by decide, by decide⟩
  obtain ⟨Todepths6_19, hodepths6_19, Xodepths6_19, eodepths6_19, Wodepths6_19, stodepths6_19⟩ := stI Xkdepths6_18 hx hZ ekdepths6_18 Arodepths6_19 (j := (5 : Int32)) hinodepths6_19 (g := (mkF m 224 #[.val (.int (6 : Int32)), .val (.int pdepths6_1)] [(.int (own_j9_0 pdepths6_1 (5 : Int32))), (.int (5 : Int32)), (.ref bndepths6_1), (.ref bndepths6_1)])) rfl rfl (hb hby own_d3_224)
  have Vwodepths6_19 : Arv Z hodepths6_19 bndepths6_1 kndepths6_1 .int (6 : Int32) [(.int (own_vdepths6_0 pdepths6_1)), (.int (own_vdepths6_1 pdepths6_1)), (.int (own_vdepths6_2 pdepths6_1)), (.int (own_vdepths6_3 pdepths6_1)), (.int (own_vdepths6_4 pdepths6_1)), (.int (own_vdepths6_5 pdepths6_1))] (.int (0 : Int32)) := Arv.set Arodepths6_19 qodepths6_19 Sodepths6_19 Nodepths6_19 Hodepths6_19 Godepths6_19 rfl Wodepths6_19 5 rfl (Nat.le_of_ble_eq_true rfl)
  have szdepths6_20 : h0.size ≤ hodepths6_19.size := Nat.le_trans szdepths6_17 (Nat.le_of_eq Wodepths6_19.size.symm)
  have Nfodepths6_19 := Fr.snoc Xodepths6_19 Nkdepths6_18 g_bndepths6_1
  obtain ⟨fs, hr, hrun, hended, hW, hsame⟩ := Xodepths6_19.leave (v := some (.ref bndepths6_1)) (fun h => by rw [Bd.returns] at h; cases h)
  refine ⟨_, _, pre0 _ (?_), hrun, hended, _, _, rfl, ?_, ⟨_, rfl⟩, hW, hsame.mono (by decide) (by decide)⟩
  · show Steps p.tables e below (s₁.setTop (mkF m 0 #[.val (.int (6 : Int32)), .val (.int pdepths6_1)] [])) _
    refine XS.iloadN X0.here hx rfl (hb hby own_d3_0) rfl ?_
    refine XS.ifYes X0.here hx rfl (pc0 := 1) (pc' := 8) rfl (hb hby own_d3_1) rfl (XT.i0_ne_t (by decide : ¬ ((6 : Int32) = (0 : Int32)))) (by decide) (by decide) ?_
    refine XS.iloadN X0.here hx rfl (hb hby own_d3_8) rfl ?_
    refine XS.iconst X0.here hx rfl (hb hby own_d3_9) ?_
    refine XS.icmpYes X0.here hx rfl (pc0 := 10) (pc' := 25) rfl (hb hby own_d3_10) rfl (XT.ii_ne_t (by decide : ¬ ((6 : Int32) = (1 : Int32)))) (by decide) (by decide) ?_
    refine XS.iloadN X0.here hx rfl (hb hby own_d3_25) rfl ?_
    refine XS.iconst X0.here hx rfl (hb hby own_d3_26) ?_
    refine XS.icmpYes X0.here hx rfl (pc0 := 27) (pc' := 50) rfl (hb hby own_d3_27) rfl (XT.ii_ne_t (by decide : ¬ ((6 : Int32) = (2 : Int32)))) (by decide) (by decide) ?_
    refine XS.iloadN X0.here hx rfl (hb hby own_d3_50) rfl ?_
    refine XS.iconst X0.here hx rfl (hb hby own_d3_51) ?_
    refine XS.icmpYes X0.here hx rfl (pc0 := 52) (pc' := 83) rfl (hb hby own_d3_52) rfl (XT.ii_ne_t (by decide : ¬ ((6 : Int32) = (3 : Int32)))) (by decide) (by decide) ?_
    refine XS.iloadN X0.here hx rfl (hb hby own_d3_83) rfl ?_
    refine XS.iconst X0.here hx rfl (hb hby own_d3_84) ?_
    refine XS.icmpYes X0.here hx rfl (pc0 := 85) (pc' := 124) rfl (hb hby own_d3_85) rfl (XT.ii_ne_t (by decide : ¬ ((6 : Int32) = (4 : Int32)))) (by decide) (by decide) ?_
    refine XS.iloadN X0.here hx rfl (hb hby own_d3_124) rfl ?_
    refine XS.iconst X0.here hx rfl (hb hby own_d3_125) ?_
    refine XS.icmpYes X0.here hx rfl (pc0 := 126) (pc' := 173) rfl (hb hby own_d3_126) rfl (XT.ii_ne_t (by decide : ¬ ((6 : Int32) = (5 : Int32)))) (by decide) (by decide) ?_
    refine XS.bipush X0.here hx rfl (hb hby own_d3_173) ?_
    refine stndepths6_1 _ ?_
    show Steps p.tables e below (Tndepths6_1.setTop (mkF m 177 #[.val (.int (6 : Int32)), .val (.int pdepths6_1)] [(.ref bndepths6_1)])) _
    refine XS.dup Xndepths6_1.here hx rfl (hb hby own_d3_177) rfl rfl ?_
    refine XS.iconst Xndepths6_1.here hx rfl (hb hby own_d3_178) ?_
    refine XS.iloadN Xndepths6_1.here hx rfl (hb hby own_d3_179) rfl ?_
    refine XS.iconst Xndepths6_1.here hx rfl (hb hby own_d3_180) ?_
    refine stkdepths6_3 _ ?_
    show Steps p.tables e below (Tkdepths6_3.setTop (mkF m 184 #[.val (.int (6 : Int32)), .val (.int pdepths6_1)] [(.int (own_j9_0 pdepths6_1 (0 : Int32))), (.int (0 : Int32)), (.ref bndepths6_1), (.ref bndepths6_1)])) _
    refine stodepths6_4 _ ?_
    show Steps p.tables e below (Todepths6_4.setTop (mkF m 185 #[.val (.int (6 : Int32)), .val (.int pdepths6_1)] [(.ref bndepths6_1)])) _
    refine XS.dup Xodepths6_4.here hx rfl (hb hby own_d3_185) rfl rfl ?_
    refine XS.iconst Xodepths6_4.here hx rfl (hb hby own_d3_186) ?_
    refine XS.iloadN Xodepths6_4.here hx rfl (hb hby own_d3_187) rfl ?_
    refine XS.iconst Xodepths6_4.here hx rfl (hb hby own_d3_188) ?_
    refine stkdepths6_6 _ ?_
    show Steps p.tables e below (Tkdepths6_6.setTop (mkF m 192 #[.val (.int (6 : Int32)), .val (.int pdepths6_1)] [(.int (own_j9_0 pdepths6_1 (1 : Int32))), (.int (1 : Int32)), (.ref bndepths6_1), (.ref bndepths6_1)])) _
    refine stodepths6_7 _ ?_
    show Steps p.tables e below (Todepths6_7.setTop (mkF m 193 #[.val (.int (6 : Int32)), .val (.int pdepths6_1)] [(.ref bndepths6_1)])) _
    refine XS.dup Xodepths6_7.here hx rfl (hb hby own_d3_193) rfl rfl ?_
    refine XS.iconst Xodepths6_7.here hx rfl (hb hby own_d3_194) ?_
    refine XS.iloadN Xodepths6_7.here hx rfl (hb hby own_d3_195) rfl ?_
    refine XS.iconst Xodepths6_7.here hx rfl (hb hby own_d3_196) ?_
    refine stkdepths6_9 _ ?_
    show Steps p.tables e below (Tkdepths6_9.setTop (mkF m 200 #[.val (.int (6 : Int32)), .val (.int pdepths6_1)] [(.int (own_j9_0 pdepths6_1 (2 : Int32))), (.int (2 : Int32)), (.ref bndepths6_1), (.ref bndepths6_1)])) _
    refine stodepths6_10 _ ?_
    show Steps p.tables e below (Todepths6_10.setTop (mkF m 201 #[.val (.int (6 : Int32)), .val (.int pdepths6_1)] [(.ref bndepths6_1)])) _
    refine XS.dup Xodepths6_10.here hx rfl (hb hby own_d3_201) rfl rfl ?_
    refine XS.iconst Xodepths6_10.here hx rfl (hb hby own_d3_202) ?_
    refine XS.iloadN Xodepths6_10.here hx rfl (hb hby own_d3_203) rfl ?_
    refine XS.iconst Xodepths6_10.here hx rfl (hb hby own_d3_204) ?_
    refine stkdepths6_12 _ ?_
    show Steps p.tables e below (Tkdepths6_12.setTop (mkF m 208 #[.val (.int (6 : Int32)), .val (.int pdepths6_1)] [(.int (own_j9_0 pdepths6_1 (3 : Int32))), (.int (3 : Int32)), (.ref bndepths6_1), (.ref bndepths6_1)])) _
    refine stodepths6_13 _ ?_
    show Steps p.tables e below (Todepths6_13.setTop (mkF m 209 #[.val (.int (6 : Int32)), .val (.int pdepths6_1)] [(.ref bndepths6_1)])) _
    refine XS.dup Xodepths6_13.here hx rfl (hb hby own_d3_209) rfl rfl ?_
    refine XS.iconst Xodepths6_13.here hx rfl (hb hby own_d3_210) ?_
    refine XS.iloadN Xodepths6_13.here hx rfl (hb hby own_d3_211) rfl ?_
    refine XS.iconst Xodepths6_13.here hx rfl (hb hby own_d3_212) ?_
    refine stkdepths6_15 _ ?_
    show Steps p.tables e below (Tkdepths6_15.setTop (mkF m 216 #[.val (.int (6 : Int32)), .val (.int pdepths6_1)] [(.int (own_j9_0 pdepths6_1 (4 : Int32))), (.int (4 : Int32)), (.ref bndepths6_1), (.ref bndepths6_1)])) _
    refine stodepths6_16 _ ?_
    show Steps p.tables e below (Todepths6_16.setTop (mkF m 217 #[.val (.int (6 : Int32)), .val (.int pdepths6_1)] [(.ref bndepths6_1)])) _
    refine XS.dup Xodepths6_16.here hx rfl (hb hby own_d3_217) rfl rfl ?_
    refine XS.iconst Xodepths6_16.here hx rfl (hb hby own_d3_218) ?_
    refine XS.iloadN Xodepths6_16.here hx rfl (hb hby own_d3_219) rfl ?_
    refine XS.iconst Xodepths6_16.here hx rfl (hb hby own_d3_220) ?_
    refine stkdepths6_18 _ ?_
    show Steps p.tables e below (Tkdepths6_18.setTop (mkF m 224 #[.val (.int (6 : Int32)), .val (.int pdepths6_1)] [(.int (own_j9_0 pdepths6_1 (5 : Int32))), (.int (5 : Int32)), (.ref bndepths6_1), (.ref bndepths6_1)])) _
    refine stodepths6_19 _ ?_
    show Steps p.tables e below (Todepths6_19.setTop (mkF m 225 #[.val (.int (6 : Int32)), .val (.int pdepths6_1)] [(.ref bndepths6_1)])) _
    jvm_step Xodepths6_19.here [Xodepths6_19.here.top, hx, (hb hby own_d3_225), Xodepths6_19.method', Bd.returns, Value.isRef, FieldType.isReference]
    first | (intro acts; rw [hr _ acts rfl rfl rfl]) | rw [hr _ _ rfl rfl rfl]
    exact Steps.refl _
  · show own_Qdepths6 Z pdepths6_1 h0 n0 _ Todepths6_19.heap _
    rw [eodepths6_19]
    exact ⟨bndepths6_1, kndepths6_1, rfl, Nfodepths6_19, ((((((((Keep.refl h0 []).ext Endepths6_1).wr Wodepths6_4 (Or.inr sz_bndepths6_1)).wr Wodepths6_7 (Or.inr sz_bndepths6_1)).wr Wodepths6_10 (Or.inr sz_bndepths6_1)).wr Wodepths6_13 (Or.inr sz_bndepths6_1)).wr Wodepths6_16 (Or.inr sz_bndepths6_1)).wr Wodepths6_19 (Or.inr sz_bndepths6_1)), sz_bndepths6_1, Vwodepths6_19⟩
theorem own_d4_0 : decode method_7_code 0 = .ok (.iload_n 0, 1) := by decide +kernel
theorem own_d4_1 : decode method_7_code 1 = .ok (.ifCond .ne 7, 3) := by decide +kernel
theorem own_d4_4 : decode method_7_code 4 = .ok (.iconst 0, 1) := by decide +kernel
theorem own_d4_5 : decode method_7_code 5 = .ok (.newarray .double, 2) := by decide +kernel
theorem own_d4_7 : decode method_7_code 7 = .ok (.areturn, 1) := by decide +kernel
theorem own_efdelays0 (m : MethodId) (pdelays0_1 : Int32) : entryFrame m #[(.int (0 : Int32)), (.int pdelays0_1)] 2 = mkF m 0 #[.val (.int (0 : Int32)), .val (.int pdelays0_1)] [] := by first | (simp [entryFrame, mkF, argsToLocals, Value.category]; done) | rfl
def own_Qdelays0 (Z : State) (pdelays0_1 : Int32) (h0 : Heap) (n0 : Nat) (v : Option Value) (h : Heap) (L : List Loc) : Prop := ∃ (bndelays0_1 : Addr) (kndelays0_1 : ClassId), v = some (.ref bndelays0_1) ∧ Fr n0 L ∧ Keep h0 h [] ∧ h0.size ≤ bndelays0_1 ∧ Arv Z h bndelays0_1 kndelays0_1 .double (0 : Int32) [] (.double (0 : UInt64))
set_option maxRecDepth 65536 in
set_option maxHeartbeats 40000000 in
theorem own_rmdelays0 (l : Launch) (Z : State) (a0 : Array Value) (hw : ∀ d ∈ tables_1, d.before a0 Z = true) (ws : List Jvm.Cond) (pdelays0_1 : Int32) (h0 : Heap) (n0 : Nat) (Z0 : n0 ≤ h0.size) :
    MetFree l (⟨"com/example/arborway/arborway/sim/WalkRunningCountPinLaw", "delays", "(II)[D"⟩ : MethodName) (head1 (Jvm.Cond.code (⟨"com/example/arborway/arborway/sim/WalkRunningCountPinLaw", "delays", "(II)[D"⟩ : MethodName) method_7_code 2 (some (.array .double)) :: ws) ({ frames := 0, cells := 1, slots := 0, locals := 0 } : Room)) (fun a U => a = #[(.int (0 : Int32)), (.int pdelays0_1)] ∧ Z.Warmed39 U.vm ∧ U.heap = h0) (fun _ _ _ _ _ => True) (fun _ U o U' => ∃ v L, o = .returned v ∧ own_Qdelays0 Z pdelays0_1 h0 n0 v U'.heap L ∧ FrameEnd U o U' L ({ frames := 0, cells := 1, slots := 0, locals := 0 } : Room).cells ({ frames := 0, cells := 1, slots := 0, locals := 0 } : Room).slots) := by
  refine MetFree.of_bodySF (plainFor_of_name own_pn0) hisR ?_
  intro p e s m args below meth c s₁ Bd hml0 hP hK
  obtain ⟨rfl, hZ, hh⟩ := hP
  have hx := Bd.exec
  have hby := Bd.bytes
  have hml : c.maxLocals = 2 := hml0
  have hown : s.vm.findClass "com/example/arborway/arborway/sim/WalkRunningCountPinLaw" = some m.cls := findClass_of_methodNamed Bd.named
  have hnm := (name_of_methodNamed Bd.named Bd.method).1
  have X0 : Stand p l e ({ frames := 0, cells := 1, slots := 0, locals := 0 } : Room) s m #[(.int (0 : Int32)), (.int pdelays0_1)] below meth c s₁ [] 0 0 := Stand.of_body Bd
  have e0 : s₁.heap = h0 := by rw [← hh, Bd.state]; rfl
  have N0 := Fr.nil n0
  have Zr : h0.size ≤ h0.size := Nat.le_refl _
  have pre0 : ∀ t, Steps p.tables e below (s₁.setTop (mkF m 0 #[.val (.int (0 : Int32)), .val (.int pdelays0_1)] [])) t → Steps p.tables e below (s₁.setTop (entryFrame m #[(.int (0 : Int32)), (.int pdelays0_1)] 2)) t := fun t k => castTop (own_efdelays0 m pdelays0_1) k
  obtain ⟨Tndelays0_1, hndelays0_1, kndelays0_1, Xndelays0_1, endelays0_1, Endelays0_1, Andelays0_1, stndelays0_1⟩ := newP X0 hx hZ (own_W hw 16 rfl) e0 (g := (mkF m 5 #[.val (.int (0 : Int32)), .val (.int pdelays0_1)] [(.int (0 : Int32))])) rfl (hb hby own_d4_5) rfl (by decide) (cap := 0) (by decide) (by decide) (by decide) (by decide)
  obtain ⟨bndelays0_1, gndelays0_1⟩ : ∃ z, z = h0.size := ⟨_, rfl⟩
  rw [← gndelays0_1] at Andelays0_1 stndelays0_1
  have g_bndelays0_1 : n0 ≤ bndelays0_1 := Nat.le_trans Z0 (Nat.le_of_eq gndelays0_1.symm)
  have sz_bndelays0_1 : h0.size ≤ bndelays0_1 := Nat.le_trans Zr (Nat.le_of_eq gndelays0_1.symm)
  have szdelays0_2 : h0.size ≤ hndelays0_1.size := Nat.le_trans Zr Endelays0_1.1
  have V_bndelays0_1 : Arv Z hndelays0_1 bndelays0_1 kndelays0_1 .double (0 : Int32) [] (.double (0 : UInt64)) := (Arv.new Andelays0_1 (by decide)).pad (pad_rep [] (.double (0 : UInt64)) 0)
  obtain ⟨fs, hr, hrun, hended, hW, hsame⟩ := Xndelays0_1.leave (v := some (.ref bndelays0_1)) (fun h => by rw [Bd.returns] at h; cases h)
  refine ⟨_, _, pre0 _ (?_), hrun, hended, _, _, rfl, ?_, ⟨_, rfl⟩, hW, hsame.mono (by decide) (by decide)⟩
  · show Steps p.tables e below (s₁.setTop (mkF m 0 #[.val (.int (0 : Int32)), .val (.int pdelays0_1)] [])) _
    refine XS.iloadN X0.here hx rfl (hb hby own_d4_0) rfl ?_
    refine XS.ifNo X0.here hx rfl (hb hby own_d4_1) rfl (XT.i0_ne_f (by decide : (0 : Int32) = (0 : Int32))) ?_
    refine XS.iconst X0.here hx rfl (hb hby own_d4_4) ?_
    refine stndelays0_1 _ ?_
    show Steps p.tables e below (Tndelays0_1.setTop (mkF m 7 #[.val (.int (0 : Int32)), .val (.int pdelays0_1)] [(.ref bndelays0_1)])) _
    jvm_step Xndelays0_1.here [Xndelays0_1.here.top, hx, (hb hby own_d4_7), Xndelays0_1.method', Bd.returns, Value.isRef, FieldType.isReference]
    first | (intro acts; rw [hr _ acts rfl rfl rfl]) | rw [hr _ _ rfl rfl rfl]
    exact Steps.refl _
  · show own_Qdelays0 Z pdelays0_1 h0 n0 _ Tndelays0_1.heap _
    rw [endelays0_1]
    exact ⟨bndelays0_1, kndelays0_1, rfl, N0, ((Keep.refl h0 []).ext Endelays0_1), sz_bndelays0_1, V_bndelays0_1⟩
theorem own_pd3 : parseMethodDescriptor "(II)D" = some ⟨[.int, .int], some .double⟩ := by decide +kernel
theorem own_d4_8 : decode method_7_code 8 = .ok (.iload_n 0, 1) := by decide +kernel
theorem own_d4_9 : decode method_7_code 9 = .ok (.iconst 1, 1) := by decide +kernel
theorem own_d4_10 : decode method_7_code 10 = .ok (.if_icmp .ne 15, 3) := by decide +kernel
theorem own_d4_13 : decode method_7_code 13 = .ok (.iconst 1, 1) := by decide +kernel
theorem own_d4_14 : decode method_7_code 14 = .ok (.newarray .double, 2) := by decide +kernel
theorem own_d4_16 : decode method_7_code 16 = .ok (.dup, 1) := by decide +kernel
theorem own_d4_17 : decode method_7_code 17 = .ok (.iconst 0, 1) := by decide +kernel
theorem own_d4_18 : decode method_7_code 18 = .ok (.iload_n 1, 1) := by decide +kernel
theorem own_d4_19 : decode method_7_code 19 = .ok (.iconst 0, 1) := by decide +kernel
theorem own_d4_20 : decode method_7_code 20 = .ok (.invokestatic 19, 3) := by decide +kernel
theorem own_d4_23 : decode method_7_code 23 = .ok (.dastore, 1) := by decide +kernel
theorem own_d4_24 : decode method_7_code 24 = .ok (.areturn, 1) := by decide +kernel
def own_vdelays1_0 (pdelays1_1 : Int32) : UInt64 := (own_j10_0 pdelays1_1 (0 : Int32))
theorem own_efdelays1 (m : MethodId) (pdelays1_1 : Int32) : entryFrame m #[(.int (1 : Int32)), (.int pdelays1_1)] 2 = mkF m 0 #[.val (.int (1 : Int32)), .val (.int pdelays1_1)] [] := by first | (simp [entryFrame, mkF, argsToLocals, Value.category]; done) | rfl
def own_Qdelays1 (Z : State) (pdelays1_1 : Int32) (h0 : Heap) (n0 : Nat) (v : Option Value) (h : Heap) (L : List Loc) : Prop := ∃ (bndelays1_1 : Addr) (kndelays1_1 : ClassId), v = some (.ref bndelays1_1) ∧ Fr n0 L ∧ Keep h0 h [] ∧ h0.size ≤ bndelays1_1 ∧ Arv Z h bndelays1_1 kndelays1_1 .double (1 : Int32) [(.double (own_vdelays1_0 pdelays1_1))] (.double (0 : UInt64))
set_option maxRecDepth 65536 in
set_option maxHeartbeats 40000000 in
theorem own_rmdelays1 (l : Launch) (Z : State) (a0 : Array Value) (hw : ∀ d ∈ tables_1, d.before a0 Z = true) (ws : List Jvm.Cond) (pdelays1_1 : Int32) (h0 : Heap) (n0 : Nat) (Z0 : n0 ≤ h0.size) :
    MetFree l (⟨"com/example/arborway/arborway/sim/WalkRunningCountPinLaw", "delays", "(II)[D"⟩ : MethodName) (head1 (Jvm.Cond.code (⟨"com/example/arborway/arborway/sim/WalkRunningCountPinLaw", "delays", "(II)[D"⟩ : MethodName) method_7_code 2 (some (.array .double)) :: ws) ({ frames := 2, cells := 1, slots := 1, locals := 29 } : Room)) (fun a U => a = #[(.int (1 : Int32)), (.int pdelays1_1)] ∧ Z.Warmed39 U.vm ∧ U.heap = h0) (fun _ _ _ _ _ => True) (fun _ U o U' => ∃ v L, o = .returned v ∧ own_Qdelays1 Z pdelays1_1 h0 n0 v U'.heap L ∧ FrameEnd U o U' L ({ frames := 2, cells := 1, slots := 1, locals := 29 } : Room).cells ({ frames := 2, cells := 1, slots := 1, locals := 29 } : Room).slots) := by
  refine MetFree.of_bodySF (plainFor_of_name own_pn0) hisR ?_
  intro p e s m args below meth c s₁ Bd hml0 hP hK
  obtain ⟨rfl, hZ, hh⟩ := hP
  have hx := Bd.exec
  have hby := Bd.bytes
  have hml : c.maxLocals = 2 := hml0
  have hown : s.vm.findClass "com/example/arborway/arborway/sim/WalkRunningCountPinLaw" = some m.cls := findClass_of_methodNamed Bd.named
  have hnm := (name_of_methodNamed Bd.named Bd.method).1
  have X0 : Stand p l e ({ frames := 2, cells := 1, slots := 1, locals := 29 } : Room) s m #[(.int (1 : Int32)), (.int pdelays1_1)] below meth c s₁ [] 0 0 := Stand.of_body Bd
  have e0 : s₁.heap = h0 := by rw [← hh, Bd.state]; rfl
  have N0 := Fr.nil n0
  have Zr : h0.size ≤ h0.size := Nat.le_refl _
  have pre0 : ∀ t, Steps p.tables e below (s₁.setTop (mkF m 0 #[.val (.int (1 : Int32)), .val (.int pdelays1_1)] [])) t → Steps p.tables e below (s₁.setTop (entryFrame m #[(.int (1 : Int32)), (.int pdelays1_1)] 2)) t := fun t k => castTop (own_efdelays1 m pdelays1_1) k
  obtain ⟨Tndelays1_1, hndelays1_1, kndelays1_1, Xndelays1_1, endelays1_1, Endelays1_1, Andelays1_1, stndelays1_1⟩ := newP X0 hx hZ (own_W hw 16 rfl) e0 (g := (mkF m 14 #[.val (.int (1 : Int32)), .val (.int pdelays1_1)] [(.int (1 : Int32))])) rfl (hb hby own_d4_14) rfl (by decide) (cap := 1) (by decide) (by decide) (by decide) (by decide)
  obtain ⟨bndelays1_1, gndelays1_1⟩ : ∃ z, z = h0.size := ⟨_, rfl⟩
  rw [← gndelays1_1] at Andelays1_1 stndelays1_1
  have g_bndelays1_1 : n0 ≤ bndelays1_1 := Nat.le_trans Z0 (Nat.le_of_eq gndelays1_1.symm)
  have sz_bndelays1_1 : h0.size ≤ bndelays1_1 := Nat.le_trans Zr (Nat.le_of_eq gndelays1_1.symm)
  have szdelays1_2 : h0.size ≤ hndelays1_1.size := Nat.le_trans Zr Endelays1_1.1
  have V_bndelays1_1 : Arv Z hndelays1_1 bndelays1_1 kndelays1_1 .double (1 : Int32) [(.double (0 : UInt64))] (.double (0 : UInt64)) := (Arv.new Andelays1_1 (by decide)).pad (pad_rep [] (.double (0 : UInt64)) 1)
  obtain ⟨_, _, ⟨Tkdelays1_3, Lkdelays1_3, kkdelays1_3, nkdelays1_3⟩, -, Xkdelays1_3, ⟨Lckdelays1_3, hQkdelays1_3, lkdelays1_3, ykdelays1_3, zkdelays1_3⟩, stkdelays1_3⟩ := Jvm.LawKit.callS Xndelays1_1 hx (y := (⟨"com/example/arborway/arborway/sim/WalkRunningCountPinLaw", "del", "(II)D"⟩ : MethodName)) hown (mvT hZ (own_W hw 47 rfl)) (mvT hZ (own_W hw 48 rfl)) (mvT hZ (own_W hw 3 rfl)) (mvT hZ (own_W hw 49 rfl)) (by decide) (backOf (W := 3) (own_rm10 l Z a0 hw [] pdelays1_1 (0 : Int32) hndelays1_1 n0 (Nat.le_trans Z0 szdelays1_2)) hZ (own_W hw 49 rfl) (own_W hw 3 rfl) (by decide) (by decide)) (g := (mkF m 20 #[.val (.int (1 : Int32)), .val (.int pdelays1_1)] [(.int (0 : Int32)), (.int pdelays1_1), (.int (0 : Int32)), (.ref bndelays1_1), (.ref bndelays1_1)])) rfl (by rw [hml]; rfl) (argsL := [(.int pdelays1_1), (.int (0 : Int32))]) (rest := [(.int (0 : Int32)), (.ref bndelays1_1), (.ref bndelays1_1)]) (lenOf own_pd3 rfl) rfl (by show 2 * 0 + _ ≤ _; exact Nat.le_of_eq rfl) (hb hby own_d4_20) (fun _ _ => ⟨rfl, endelays1_1, (by decide : 1 + 0 ≤ _), (by decide : 1 + 0 ≤ _)⟩)
  dsimp only [Pt.U, Pt.locs, Pt.cells, Pt.slots] at Xkdelays1_3 lkdelays1_3 ykdelays1_3 zkdelays1_3 stkdelays1_3 hQkdelays1_3
  replace lkdelays1_3 := lkdelays1_3.symm; replace ykdelays1_3 := ykdelays1_3.symm; replace zkdelays1_3 := zkdelays1_3.symm; subst lkdelays1_3 ykdelays1_3 zkdelays1_3
  obtain ⟨rfl, Nkdelays1_3q, ekdelays1_3⟩ := hQkdelays1_3
  have Nkdelays1_3 := Fr.app N0 Nkdelays1_3q
  have Oodelays1_4 := V_bndelays1_1
  obtain ⟨clodelays1_4, Arodelays1_4, qodelays1_4, Sodelays1_4, Nodelays1_4, Hodelays1_4, Godelays1_4⟩ := Oodelays1_4
  have hinodelays1_4 : ¬ ((0 : Int32) < 0 ∨ clodelays1_4.slots.size ≤ ((0 : Int32)).toNatClampNeg) := inb_of Sodelays1_4 ⟨by decide, by decide⟩
  obtain ⟨Todelays1_4, hodelays1_4, Xodelays1_4, eodelays1_4, Wodelays1_4, stodelays1_4⟩ := stD Xkdelays1_3 hx hZ ekdelays1_3 Arodelays1_4 (j := (0 : Int32)) hinodelays1_4 (g := (mkF m 23 #[.val (.int (1 : Int32)), .val (.int pdelays1_1)] [(.double (own_j10_0 pdelays1_1 (0 : Int32))), (.int (0 : Int32)), (.ref bndelays1_1), (.ref bndelays1_1)])) rfl rfl (hb hby own_d4_23)
  have Vwodelays1_4 : Arv Z hodelays1_4 bndelays1_1 kndelays1_1 .double (1 : Int32) [(.double (own_vdelays1_0 pdelays1_1))] (.double (0 : UInt64)) := Arv.set Arodelays1_4 qodelays1_4 Sodelays1_4 Nodelays1_4 Hodelays1_4 Godelays1_4 rfl Wodelays1_4 0 rfl (Nat.le_of_ble_eq_true rfl)
  have szdelays1_5 : h0.size ≤ hodelays1_4.size := Nat.le_trans szdelays1_2 (Nat.le_of_eq Wodelays1_4.size.symm)
  have Nfodelays1_4 := Fr.snoc Xodelays1_4 Nkdelays1_3 g_bndelays1_1
  obtain ⟨fs, hr, hrun, hended, hW, hsame⟩ := Xodelays1_4.leave (v := some (.ref bndelays1_1)) (fun h => by rw [Bd.returns] at h; cases h)
  refine ⟨_, _, pre0 _ (?_), hrun, hended, _, _, rfl, ?_, ⟨_, rfl⟩, hW, hsame.mono (by decide) (by decide)⟩
  · show Steps p.tables e below (s₁.setTop (mkF m 0 #[.val (.int (1 : Int32)), .val (.int pdelays1_1)] [])) _
    refine XS.iloadN X0.here hx rfl (hb hby own_d4_0) rfl ?_
    refine XS.ifYes X0.here hx rfl (pc0 := 1) (pc' := 8) rfl (hb hby own_d4_1) rfl (XT.i0_ne_t (by decide : ¬ ((1 : Int32) = (0 : Int32)))) (by decide) (by decide) ?_
    refine XS.iloadN X0.here hx rfl (hb hby own_d4_8) rfl ?_
    refine XS.iconst X0.here hx rfl (hb hby own_d4_9) ?_
    refine XS.icmpNo X0.here hx rfl (hb hby own_d4_10) rfl (XT.ii_ne_f (by decide : (1 : Int32) = (1 : Int32))) ?_
    refine XS.iconst X0.here hx rfl (hb hby own_d4_13) ?_
    refine stndelays1_1 _ ?_
    show Steps p.tables e below (Tndelays1_1.setTop (mkF m 16 #[.val (.int (1 : Int32)), .val (.int pdelays1_1)] [(.ref bndelays1_1)])) _
    refine XS.dup Xndelays1_1.here hx rfl (hb hby own_d4_16) rfl rfl ?_
    refine XS.iconst Xndelays1_1.here hx rfl (hb hby own_d4_17) ?_
    refine XS.iloadN Xndelays1_1.here hx rfl (hb hby own_d4_18) rfl ?_
    refine XS.iconst Xndelays1_1.here hx rfl (hb hby own_d4_19) ?_
    refine stkdelays1_3 _ ?_
    show Steps p.tables e below (Tkdelays1_3.setTop (mkF m 23 #[.val (.int (1 : Int32)), .val (.int pdelays1_1)] [(.double (own_j10_0 pdelays1_1 (0 : Int32))), (.int (0 : Int32)), (.ref bndelays1_1), (.ref bndelays1_1)])) _
    refine stodelays1_4 _ ?_
    show Steps p.tables e below (Todelays1_4.setTop (mkF m 24 #[.val (.int (1 : Int32)), .val (.int pdelays1_1)] [(.ref bndelays1_1)])) _
    jvm_step Xodelays1_4.here [Xodelays1_4.here.top, hx, (hb hby own_d4_24), Xodelays1_4.method', Bd.returns, Value.isRef, FieldType.isReference]
    first | (intro acts; rw [hr _ acts rfl rfl rfl]) | rw [hr _ _ rfl rfl rfl]
    exact Steps.refl _
  · show own_Qdelays1 Z pdelays1_1 h0 n0 _ Todelays1_4.heap _
    rw [eodelays1_4]
    exact ⟨bndelays1_1, kndelays1_1, rfl, Nfodelays1_4, (((Keep.refl h0 []).ext Endelays1_1).wr Wodelays1_4 (Or.inr sz_bndelays1_1)), sz_bndelays1_1, Vwodelays1_4⟩
theorem own_d4_25 : decode method_7_code 25 = .ok (.iload_n 0, 1) := by decide +kernel
theorem own_d4_26 : decode method_7_code 26 = .ok (.iconst 2, 1) := by decide +kernel
theorem own_d4_27 : decode method_7_code 27 = .ok (.if_icmp .ne 23, 3) := by decide +kernel
theorem own_d4_30 : decode method_7_code 30 = .ok (.iconst 2, 1) := by decide +kernel
theorem own_d4_31 : decode method_7_code 31 = .ok (.newarray .double, 2) := by decide +kernel
theorem own_d4_33 : decode method_7_code 33 = .ok (.dup, 1) := by decide +kernel
theorem own_d4_34 : decode method_7_code 34 = .ok (.iconst 0, 1) := by decide +kernel
theorem own_d4_35 : decode method_7_code 35 = .ok (.iload_n 1, 1) := by decide +kernel
theorem own_d4_36 : decode method_7_code 36 = .ok (.iconst 0, 1) := by decide +kernel
theorem own_d4_37 : decode method_7_code 37 = .ok (.invokestatic 19, 3) := by decide +kernel
theorem own_d4_40 : decode method_7_code 40 = .ok (.dastore, 1) := by decide +kernel
theorem own_d4_41 : decode method_7_code 41 = .ok (.dup, 1) := by decide +kernel
theorem own_d4_42 : decode method_7_code 42 = .ok (.iconst 1, 1) := by decide +kernel
theorem own_d4_43 : decode method_7_code 43 = .ok (.iload_n 1, 1) := by decide +kernel
theorem own_d4_44 : decode method_7_code 44 = .ok (.iconst 1, 1) := by decide +kernel
theorem own_d4_45 : decode method_7_code 45 = .ok (.invokestatic 19, 3) := by decide +kernel
theorem own_d4_48 : decode method_7_code 48 = .ok (.dastore, 1) := by decide +kernel
theorem own_d4_49 : decode method_7_code 49 = .ok (.areturn, 1) := by decide +kernel
def own_vdelays2_0 (pdelays2_1 : Int32) : UInt64 := (own_j10_0 pdelays2_1 (0 : Int32))
def own_vdelays2_1 (pdelays2_1 : Int32) : UInt64 := (own_j10_0 pdelays2_1 (1 : Int32))
theorem own_efdelays2 (m : MethodId) (pdelays2_1 : Int32) : entryFrame m #[(.int (2 : Int32)), (.int pdelays2_1)] 2 = mkF m 0 #[.val (.int (2 : Int32)), .val (.int pdelays2_1)] [] := by first | (simp [entryFrame, mkF, argsToLocals, Value.category]; done) | rfl
def own_Qdelays2 (Z : State) (pdelays2_1 : Int32) (h0 : Heap) (n0 : Nat) (v : Option Value) (h : Heap) (L : List Loc) : Prop := ∃ (bndelays2_1 : Addr) (kndelays2_1 : ClassId), v = some (.ref bndelays2_1) ∧ Fr n0 L ∧ Keep h0 h [] ∧ h0.size ≤ bndelays2_1 ∧ Arv Z h bndelays2_1 kndelays2_1 .double (2 : Int32) [(.double (own_vdelays2_0 pdelays2_1)), (.double (own_vdelays2_1 pdelays2_1))] (.double (0 : UInt64))
set_option maxRecDepth 65536 in
set_option maxHeartbeats 40000000 in
theorem own_rmdelays2 (l : Launch) (Z : State) (a0 : Array Value) (hw : ∀ d ∈ tables_1, d.before a0 Z = true) (ws : List Jvm.Cond) (pdelays2_1 : Int32) (h0 : Heap) (n0 : Nat) (Z0 : n0 ≤ h0.size) :
    MetFree l (⟨"com/example/arborway/arborway/sim/WalkRunningCountPinLaw", "delays", "(II)[D"⟩ : MethodName) (head1 (Jvm.Cond.code (⟨"com/example/arborway/arborway/sim/WalkRunningCountPinLaw", "delays", "(II)[D"⟩ : MethodName) method_7_code 2 (some (.array .double)) :: ws) ({ frames := 2, cells := 1, slots := 2, locals := 29 } : Room)) (fun a U => a = #[(.int (2 : Int32)), (.int pdelays2_1)] ∧ Z.Warmed39 U.vm ∧ U.heap = h0) (fun _ _ _ _ _ => True) (fun _ U o U' => ∃ v L, o = .returned v ∧ own_Qdelays2 Z pdelays2_1 h0 n0 v U'.heap L ∧ FrameEnd U o U' L ({ frames := 2, cells := 1, slots := 2, locals := 29 } : Room).cells ({ frames := 2, cells := 1, slots := 2, locals := 29 } : Room).slots) := by
  refine MetFree.of_bodySF (plainFor_of_name own_pn0) hisR ?_
  intro p e s m args below meth c s₁ Bd hml0 hP hK
  obtain ⟨rfl, hZ, hh⟩ := hP
  have hx := Bd.exec
  have hby := Bd.bytes
  have hml : c.maxLocals = 2 := hml0
  have hown : s.vm.findClass "com/example/arborway/arborway/sim/WalkRunningCountPinLaw" = some m.cls := findClass_of_methodNamed Bd.named
  have hnm := (name_of_methodNamed Bd.named Bd.method).1
  have X0 : Stand p l e ({ frames := 2, cells := 1, slots := 2, locals := 29 } : Room) s m #[(.int (2 : Int32)), (.int pdelays2_1)] below meth c s₁ [] 0 0 := Stand.of_body Bd
  have e0 : s₁.heap = h0 := by rw [← hh, Bd.state]; rfl
  have N0 := Fr.nil n0
  have Zr : h0.size ≤ h0.size := Nat.le_refl _
  have pre0 : ∀ t, Steps p.tables e below (s₁.setTop (mkF m 0 #[.val (.int (2 : Int32)), .val (.int pdelays2_1)] [])) t → Steps p.tables e below (s₁.setTop (entryFrame m #[(.int (2 : Int32)), (.int pdelays2_1)] 2)) t := fun t k => castTop (own_efdelays2 m pdelays2_1) k
  obtain ⟨Tndelays2_1, hndelays2_1, kndelays2_1, Xndelays2_1, endelays2_1, Endelays2_1, Andelays2_1, stndelays2_1⟩ := newP X0 hx hZ (own_W hw 16 rfl) e0 (g := (mkF m 31 #[.val (.int (2 : Int32)), .val (.int pdelays2_1)] [(.int (2 : Int32))])) rfl (hb hby own_d4_31) rfl (by decide) (cap := 2) (by decide) (by decide) (by decide) (by decide)
  obtain ⟨bndelays2_1, gndelays2_1⟩ : ∃ z, z = h0.size := ⟨_, rfl⟩
  rw [← gndelays2_1] at Andelays2_1 stndelays2_1
  have g_bndelays2_1 : n0 ≤ bndelays2_1 := Nat.le_trans Z0 (Nat.le_of_eq gndelays2_1.symm)
  have sz_bndelays2_1 : h0.size ≤ bndelays2_1 := Nat.le_trans Zr (Nat.le_of_eq gndelays2_1.symm)
  have szdelays2_2 : h0.size ≤ hndelays2_1.size := Nat.le_trans Zr Endelays2_1.1
  have V_bndelays2_1 : Arv Z hndelays2_1 bndelays2_1 kndelays2_1 .double (2 : Int32) [(.double (0 : UInt64)), (.double (0 : UInt64))] (.double (0 : UInt64)) := (Arv.new Andelays2_1 (by decide)).pad (pad_rep [] (.double (0 : UInt64)) 2)
  obtain ⟨_, _, ⟨Tkdelays2_3, Lkdelays2_3, kkdelays2_3, nkdelays2_3⟩, -, Xkdelays2_3, ⟨Lckdelays2_3, hQkdelays2_3, lkdelays2_3, ykdelays2_3, zkdelays2_3⟩, stkdelays2_3⟩ := Jvm.LawKit.callS Xndelays2_1 hx (y := (⟨"com/example/arborway/arborway/sim/WalkRunningCountPinLaw", "del", "(II)D"⟩ : MethodName)) hown (mvT hZ (own_W hw 47 rfl)) (mvT hZ (own_W hw 48 rfl)) (mvT hZ (own_W hw 3 rfl)) (mvT hZ (own_W hw 49 rfl)) (by decide) (backOf (W := 3) (own_rm10 l Z a0 hw [] pdelays2_1 (0 : Int32) hndelays2_1 n0 (Nat.le_trans Z0 szdelays2_2)) hZ (own_W hw 49 rfl) (own_W hw 3 rfl) (by decide) (by decide)) (g := (mkF m 37 #[.val (.int (2 : Int32)), .val (.int pdelays2_1)] [(.int (0 : Int32)), (.int pdelays2_1), (.int (0 : Int32)), (.ref bndelays2_1), (.ref bndelays2_1)])) rfl (by rw [hml]; rfl) (argsL := [(.int pdelays2_1), (.int (0 : Int32))]) (rest := [(.int (0 : Int32)), (.ref bndelays2_1), (.ref bndelays2_1)]) (lenOf own_pd3 rfl) rfl (by show 2 * 0 + _ ≤ _; exact Nat.le_of_eq rfl) (hb hby own_d4_37) (fun _ _ => ⟨rfl, endelays2_1, (by decide : 1 + 0 ≤ _), (by decide : 2 + 0 ≤ _)⟩)
  dsimp only [Pt.U, Pt.locs, Pt.cells, Pt.slots] at Xkdelays2_3 lkdelays2_3 ykdelays2_3 zkdelays2_3 stkdelays2_3 hQkdelays2_3
  replace lkdelays2_3 := lkdelays2_3.symm; replace ykdelays2_3 := ykdelays2_3.symm; replace zkdelays2_3 := zkdelays2_3.symm; subst lkdelays2_3 ykdelays2_3 zkdelays2_3
  obtain ⟨rfl, Nkdelays2_3q, ekdelays2_3⟩ := hQkdelays2_3
  have Nkdelays2_3 := Fr.app N0 Nkdelays2_3q
  have Oodelays2_4 := V_bndelays2_1
  obtain ⟨clodelays2_4, Arodelays2_4, qodelays2_4, Sodelays2_4, Nodelays2_4, Hodelays2_4, Godelays2_4⟩ := Oodelays2_4
  have hinodelays2_4 : ¬ ((0 : Int32) < 0 ∨ clodelays2_4.slots.size ≤ ((0 : Int32)).toNatClampNeg) := inb_of Sodelays2_4 ⟨by decide, by decide⟩
  obtain ⟨Todelays2_4, hodelays2_4, Xodelays2_4, eodelays2_4, Wodelays2_4, stodelays2_4⟩ := stD Xkdelays2_3 hx hZ ekdelays2_3 Arodelays2_4 (j := (0 : Int32)) hinodelays2_4 (g := (mkF m 40 #[.val (.int (2 : Int32)), .val (.int pdelays2_1)] [(.double (own_j10_0 pdelays2_1 (0 : Int32))), (.int (0 : Int32)), (.ref bndelays2_1), (.ref bndelays2_1)])) rfl rfl (hb hby own_d4_40)
  have Vwodelays2_4 : Arv Z hodelays2_4 bndelays2_1 kndelays2_1 .double (2 : Int32) [(.double (own_vdelays2_0 pdelays2_1)), (.double (0 : UInt64))] (.double (0 : UInt64)) := Arv.set Arodelays2_4 qodelays2_4 Sodelays2_4 Nodelays2_4 Hodelays2_4 Godelays2_4 rfl Wodelays2_4 0 rfl (Nat.le_of_ble_eq_true rfl)
  have szdelays2_5 : h0.size ≤ hodelays2_4.size := Nat.le_trans szdelays2_2 (Nat.le_of_eq Wodelays2_4.size.symm)
  have Nfodelays2_4 := Fr.snoc Xodelays2_4 Nkdelays2_3 g_bndelays2_1
  obtain ⟨_, _, ⟨Tkdelays2_6, Lkdelays2_6, kkdelays2_6, nkdelays2_6⟩, -, Xkdelays2_6, ⟨Lckdelays2_6, hQkdelays2_6, lkdelays2_6, ykdelays2_6, zkdelays2_6⟩, stkdelays2_6⟩ := Jvm.LawKit.callS Xodelays2_4 hx (y := (⟨"com/example/arborway/arborway/sim/WalkRunningCountPinLaw", "del", "(II)D"⟩ : MethodName)) hown (mvT hZ (own_W hw 47 rfl)) (mvT hZ (own_W hw 48 rfl)) (mvT hZ (own_W hw 3 rfl)) (mvT hZ (own_W hw 49 rfl)) (by decide) (backOf (W := 3) (own_rm10 l Z a0 hw [] pdelays2_1 (1 : Int32) hodelays2_4 n0 (Nat.le_trans Z0 szdelays2_5)) hZ (own_W hw 49 rfl) (own_W hw 3 rfl) (by decide) (by decide)) (g := (mkF m 45 #[.val (.int (2 : Int32)), .val (.int pdelays2_1)] [(.int (1 : Int32)), (.int pdelays2_1), (.int (1 : Int32)), (.ref bndelays2_1), (.ref bndelays2_1)])) rfl (by rw [hml]; rfl) (argsL := [(.int pdelays2_1), (.int (1 : Int32))]) (rest := [(.int (1 : Int32)), (.ref bndelays2_1), (.ref bndelays2_1)]) (lenOf own_pd3 rfl) rfl (by show 2 * 0 + _ ≤ _; exact Nat.le_of_eq rfl) (hb hby own_d4_45) (fun _ _ => ⟨rfl, eodelays2_4, (by decide : 1 + 0 ≤ _), (by decide : 2 + 0 ≤ _)⟩)
  dsimp only [Pt.U, Pt.locs, Pt.cells, Pt.slots] at Xkdelays2_6 lkdelays2_6 ykdelays2_6 zkdelays2_6 stkdelays2_6 hQkdelays2_6
  replace lkdelays2_6 := lkdelays2_6.symm; replace ykdelays2_6 := ykdelays2_6.symm; replace zkdelays2_6 := zkdelays2_6.symm; subst lkdelays2_6 ykdelays2_6 zkdelays2_6
  obtain ⟨rfl, Nkdelays2_6q, ekdelays2_6⟩ := hQkdelays2_6
  have Nkdelays2_6 := Fr.app Nfodelays2_4 Nkdelays2_6q
  have Oodelays2_7 := Vwodelays2_4
  obtain ⟨clodelays2_7, Arodelays2_7, qodelays2_7, Sodelays2_7, Nodelays2_7, Hodelays2_7, Godelays2_7⟩ := Oodelays2_7
  have hinodelays2_7 : ¬ ((1 : Int32) < 0 ∨ clodelays2_7.slots.size ≤ ((1 : Int32)).toNatClampNeg) := inb_of Sodelays2_7 ⟨by decide, by decide⟩
  obtain ⟨Todelays2_7, hodelays2_7, Xodelays2_7, eodelays2_7, Wodelays2_7, stodelays2_7⟩ := stD Xkdelays2_6 hx hZ ekdelays2_6 Arodelays2_7 (j := (1 : Int32)) hinodelays2_7 (g := (mkF m 48 #[.val (.int (2 : Int32)), .val (.int pdelays2_1)] [(.double (own_j10_0 pdelays2_1 (1 : Int32))), (.int (1 : Int32)), (.ref bndelays2_1), (.ref bndelays2_1)])) rfl rfl (hb hby own_d4_48)
  have Vwodelays2_7 : Arv Z hodelays2_7 bndelays2_1 kndelays2_1 .double (2 : Int32) [(.double (own_vdelays2_0 pdelays2_1)), (.double (own_vdelays2_1 pdelays2_1))] (.double (0 : UInt64)) := Arv.set Arodelays2_7 qodelays2_7 Sodelays2_7 Nodelays2_7 Hodelays2_7 Godelays2_7 rfl Wodelays2_7 1 rfl (Nat.le_of_ble_eq_true rfl)
  have szdelays2_8 : h0.size ≤ hodelays2_7.size := Nat.le_trans szdelays2_5 (Nat.le_of_eq Wodelays2_7.size.symm)
  have Nfodelays2_7 := Fr.snoc Xodelays2_7 Nkdelays2_6 g_bndelays2_1
  obtain ⟨fs, hr, hrun, hended, hW, hsame⟩ := Xodelays2_7.leave (v := some (.ref bndelays2_1)) (fun h => by rw [Bd.returns] at h; cases h)
  refine ⟨_, _, pre0 _ (?_), hrun, hended, _, _, rfl, ?_, ⟨_, rfl⟩, hW, hsame.mono (by decide) (by decide)⟩
  · show Steps p.tables e below (s₁.setTop (mkF m 0 #[.val (.int (2 : Int32)), .val (.int pdelays2_1)] [])) _
    refine XS.iloadN X0.here hx rfl (hb hby own_d4_0) rfl ?_
    refine XS.ifYes X0.here hx rfl (pc0 := 1) (pc' := 8) rfl (hb hby own_d4_1) rfl (XT.i0_ne_t (by decide : ¬ ((2 : Int32) = (0 : Int32)))) (by decide) (by decide) ?_
    refine XS.iloadN X0.here hx rfl (hb hby own_d4_8) rfl ?_
    refine XS.iconst X0.here hx rfl (hb hby own_d4_9) ?_
    refine XS.icmpYes X0.here hx rfl (pc0 := 10) (pc' := 25) rfl (hb hby own_d4_10) rfl (XT.ii_ne_t (by decide : ¬ ((2 : Int32) = (1 : Int32)))) (by decide) (by decide) ?_
    refine XS.iloadN X0.here hx rfl (hb hby own_d4_25) rfl ?_
    refine XS.iconst X0.here hx rfl (hb hby own_d4_26) ?_
    refine XS.icmpNo X0.here hx rfl (hb hby own_d4_27) rfl (XT.ii_ne_f (by decide : (2 : Int32) = (2 : Int32))) ?_
    refine XS.iconst X0.here hx rfl (hb hby own_d4_30) ?_
    refine stndelays2_1 _ ?_
    show Steps p.tables e below (Tndelays2_1.setTop (mkF m 33 #[.val (.int (2 : Int32)), .val (.int pdelays2_1)] [(.ref bndelays2_1)])) _
    refine XS.dup Xndelays2_1.here hx rfl (hb hby own_d4_33) rfl rfl ?_
    refine XS.iconst Xndelays2_1.here hx rfl (hb hby own_d4_34) ?_
    refine XS.iloadN Xndelays2_1.here hx rfl (hb hby own_d4_35) rfl ?_
    refine XS.iconst Xndelays2_1.here hx rfl (hb hby own_d4_36) ?_
    refine stkdelays2_3 _ ?_
    show Steps p.tables e below (Tkdelays2_3.setTop (mkF m 40 #[.val (.int (2 : Int32)), .val (.int pdelays2_1)] [(.double (own_j10_0 pdelays2_1 (0 : Int32))), (.int (0 : Int32)), (.ref bndelays2_1), (.ref bndelays2_1)])) _
    refine stodelays2_4 _ ?_
    show Steps p.tables e below (Todelays2_4.setTop (mkF m 41 #[.val (.int (2 : Int32)), .val (.int pdelays2_1)] [(.ref bndelays2_1)])) _
    refine XS.dup Xodelays2_4.here hx rfl (hb hby own_d4_41) rfl rfl ?_
    refine XS.iconst Xodelays2_4.here hx rfl (hb hby own_d4_42) ?_
    refine XS.iloadN Xodelays2_4.here hx rfl (hb hby own_d4_43) rfl ?_
    refine XS.iconst Xodelays2_4.here hx rfl (hb hby own_d4_44) ?_
    refine stkdelays2_6 _ ?_
    show Steps p.tables e below (Tkdelays2_6.setTop (mkF m 48 #[.val (.int (2 : Int32)), .val (.int pdelays2_1)] [(.double (own_j10_0 pdelays2_1 (1 : Int32))), (.int (1 : Int32)), (.ref bndelays2_1), (.ref bndelays2_1)])) _
    refine stodelays2_7 _ ?_
    show Steps p.tables e below (Todelays2_7.setTop (mkF m 49 #[.val (.int (2 : Int32)), .val (.int pdelays2_1)] [(.ref bndelays2_1)])) _
    jvm_step Xodelays2_7.here [Xodelays2_7.here.top, hx, (hb hby own_d4_49), Xodelays2_7.method', Bd.returns, Value.isRef, FieldType.isReference]
    first | (intro acts; rw [hr _ acts rfl rfl rfl]) | rw [hr _ _ rfl rfl rfl]
    exact Steps.refl _
  · show own_Qdelays2 Z pdelays2_1 h0 n0 _ Todelays2_7.heap _
    rw [eodelays2_7]
    exact ⟨bndelays2_1, kndelays2_1, rfl, Nfodelays2_7, ((((Keep.refl h0 []).ext Endelays2_1).wr Wodelays2_4 (Or.inr sz_bndelays2_1)).wr Wodelays2_7 (Or.inr sz_bndelays2_1)), sz_bndelays2_1, Vwodelays2_7⟩
theorem own_d4_50 : decode method_7_code 50 = .ok (.iload_n 0, 1) := by decide +kernel
theorem own_d4_51 : decode method_7_code 51 = .ok (.iconst 3, 1) := by decide +kernel
theorem own_d4_52 : decode method_7_code 52 = .ok (.if_icmp .ne 31, 3) := by decide +kernel
theorem own_d4_55 : decode method_7_code 55 = .ok (.iconst 3, 1) := by decide +kernel
theorem own_d4_56 : decode method_7_code 56 = .ok (.newarray .double, 2) := by decide +kernel
theorem own_d4_58 : decode method_7_code 58 = .ok (.dup, 1) := by decide +kernel
theorem own_d4_59 : decode method_7_code 59 = .ok (.iconst 0, 1) := by decide +kernel
theorem own_d4_60 : decode method_7_code 60 = .ok (.iload_n 1, 1) := by decide +kernel
theorem own_d4_61 : decode method_7_code 61 = .ok (.iconst 0, 1) := by decide +kernel
theorem own_d4_62 : decode method_7_code 62 = .ok (.invokestatic 19, 3) := by decide +kernel
theorem own_d4_65 : decode method_7_code 65 = .ok (.dastore, 1) := by decide +kernel
theorem own_d4_66 : decode method_7_code 66 = .ok (.dup, 1) := by decide +kernel
theorem own_d4_67 : decode method_7_code 67 = .ok (.iconst 1, 1) := by decide +kernel
theorem own_d4_68 : decode method_7_code 68 = .ok (.iload_n 1, 1) := by decide +kernel
theorem own_d4_69 : decode method_7_code 69 = .ok (.iconst 1, 1) := by decide +kernel
theorem own_d4_70 : decode method_7_code 70 = .ok (.invokestatic 19, 3) := by decide +kernel
theorem own_d4_73 : decode method_7_code 73 = .ok (.dastore, 1) := by decide +kernel
theorem own_d4_74 : decode method_7_code 74 = .ok (.dup, 1) := by decide +kernel
theorem own_d4_75 : decode method_7_code 75 = .ok (.iconst 2, 1) := by decide +kernel
theorem own_d4_76 : decode method_7_code 76 = .ok (.iload_n 1, 1) := by decide +kernel
theorem own_d4_77 : decode method_7_code 77 = .ok (.iconst 2, 1) := by decide +kernel
theorem own_d4_78 : decode method_7_code 78 = .ok (.invokestatic 19, 3) := by decide +kernel
theorem own_d4_81 : decode method_7_code 81 = .ok (.dastore, 1) := by decide +kernel
theorem own_d4_82 : decode method_7_code 82 = .ok (.areturn, 1) := by decide +kernel
def own_vdelays3_0 (pdelays3_1 : Int32) : UInt64 := (own_j10_0 pdelays3_1 (0 : Int32))
def own_vdelays3_1 (pdelays3_1 : Int32) : UInt64 := (own_j10_0 pdelays3_1 (1 : Int32))
def own_vdelays3_2 (pdelays3_1 : Int32) : UInt64 := (own_j10_0 pdelays3_1 (2 : Int32))
theorem own_efdelays3 (m : MethodId) (pdelays3_1 : Int32) : entryFrame m #[(.int (3 : Int32)), (.int pdelays3_1)] 2 = mkF m 0 #[.val (.int (3 : Int32)), .val (.int pdelays3_1)] [] := by first | (simp [entryFrame, mkF, argsToLocals, Value.category]; done) | rfl
def own_Qdelays3 (Z : State) (pdelays3_1 : Int32) (h0 : Heap) (n0 : Nat) (v : Option Value) (h : Heap) (L : List Loc) : Prop := ∃ (bndelays3_1 : Addr) (kndelays3_1 : ClassId), v = some (.ref bndelays3_1) ∧ Fr n0 L ∧ Keep h0 h [] ∧ h0.size ≤ bndelays3_1 ∧ Arv Z h bndelays3_1 kndelays3_1 .double (3 : Int32) [(.double (own_vdelays3_0 pdelays3_1)), (.double (own_vdelays3_1 pdelays3_1)), (.double (own_vdelays3_2 pdelays3_1))] (.double (0 : UInt64))
set_option maxRecDepth 65536 in
set_option maxHeartbeats 40000000 in
theorem own_rmdelays3 (l : Launch) (Z : State) (a0 : Array Value) (hw : ∀ d ∈ tables_1, d.before a0 Z = true) (ws : List Jvm.Cond) (pdelays3_1 : Int32) (h0 : Heap) (n0 : Nat) (Z0 : n0 ≤ h0.size) :
    MetFree l (⟨"com/example/arborway/arborway/sim/WalkRunningCountPinLaw", "delays", "(II)[D"⟩ : MethodName) (head1 (Jvm.Cond.code (⟨"com/example/arborway/arborway/sim/WalkRunningCountPinLaw", "delays", "(II)[D"⟩ : MethodName) method_7_code 2 (some (.array .double)) :: ws) ({ frames := 2, cells := 1, slots := 3, locals := 29 } : Room)) (fun a U => a = #[(.int (3 : Int32)), (.int pdelays3_1)] ∧ Z.Warmed39 U.vm ∧ U.heap = h0) (fun _ _ _ _ _ => True) (fun _ U o U' => ∃ v L, o = .returned v ∧ own_Qdelays3 Z pdelays3_1 h0 n0 v U'.heap L ∧ FrameEnd U o U' L ({ frames := 2, cells := 1, slots := 3, locals := 29 } : Room).cells ({ frames := 2, cells := 1, slots := 3, locals := 29 } : Room).slots) := by
  refine MetFree.of_bodySF (plainFor_of_name own_pn0) hisR ?_
  intro p e s m args below meth c s₁ Bd hml0 hP hK
  obtain ⟨rfl, hZ, hh⟩ := hP
  have hx := Bd.exec
  have hby := Bd.bytes
  have hml : c.maxLocals = 2 := hml0
  have hown : s.vm.findClass "com/example/arborway/arborway/sim/WalkRunningCountPinLaw" = some m.cls := findClass_of_methodNamed Bd.named
  have hnm := (name_of_methodNamed Bd.named Bd.method).1
  have X0 : Stand p l e ({ frames := 2, cells := 1, slots := 3, locals := 29 } : Room) s m #[(.int (3 : Int32)), (.int pdelays3_1)] below meth c s₁ [] 0 0 := Stand.of_body Bd
  have e0 : s₁.heap = h0 := by rw [← hh, Bd.state]; rfl
  have N0 := Fr.nil n0
  have Zr : h0.size ≤ h0.size := Nat.le_refl _
  have pre0 : ∀ t, Steps p.tables e below (s₁.setTop (mkF m 0 #[.val (.int (3 : Int32)), .val (.int pdelays3_1)] [])) t → Steps p.tables e below (s₁.setTop (entryFrame m #[(.int (3 : Int32)), (.int pdelays3_1)] 2)) t := fun t k => castTop (own_efdelays3 m pdelays3_1) k
  obtain ⟨Tndelays3_1, hndelays3_1, kndelays3_1, Xndelays3_1, endelays3_1, Endelays3_1, Andelays3_1, stndelays3_1⟩ := newP X0 hx hZ (own_W hw 16 rfl) e0 (g := (mkF m 56 #[.val (.int (3 : Int32)), .val (.int pdelays3_1)] [(.int (3 : Int32))])) rfl (hb hby own_d4_56) rfl (by decide) (cap := 3) (by decide) (by decide) (by decide) (by decide)
  obtain ⟨bndelays3_1, gndelays3_1⟩ : ∃ z, z = h0.size := ⟨_, rfl⟩
  rw [← gndelays3_1] at Andelays3_1 stndelays3_1
  have g_bndelays3_1 : n0 ≤ bndelays3_1 := Nat.le_trans Z0 (Nat.le_of_eq gndelays3_1.symm)
  have sz_bndelays3_1 : h0.size ≤ bndelays3_1 := Nat.le_trans Zr (Nat.le_of_eq gndelays3_1.symm)
  have szdelays3_2 : h0.size ≤ hndelays3_1.size := Nat.le_trans Zr Endelays3_1.1
  have V_bndelays3_1 : Arv Z hndelays3_1 bndelays3_1 kndelays3_1 .double (3 : Int32) [(.double (0 : UInt64)), (.double (0 : UInt64)), (.double (0 : UInt64))] (.double (0 : UInt64)) := (Arv.new Andelays3_1 (by decide)).pad (pad_rep [] (.double (0 : UInt64)) 3)
  obtain ⟨_, _, ⟨Tkdelays3_3, Lkdelays3_3, kkdelays3_3, nkdelays3_3⟩, -, Xkdelays3_3, ⟨Lckdelays3_3, hQkdelays3_3, lkdelays3_3, ykdelays3_3, zkdelays3_3⟩, stkdelays3_3⟩ := Jvm.LawKit.callS Xndelays3_1 hx (y := (⟨"com/example/arborway/arborway/sim/WalkRunningCountPinLaw", "del", "(II)D"⟩ : MethodName)) hown (mvT hZ (own_W hw 47 rfl)) (mvT hZ (own_W hw 48 rfl)) (mvT hZ (own_W hw 3 rfl)) (mvT hZ (own_W hw 49 rfl)) (by decide) (backOf (W := 3) (own_rm10 l Z a0 hw [] pdelays3_1 (0 : Int32) hndelays3_1 n0 (Nat.le_trans Z0 szdelays3_2)) hZ (own_W hw 49 rfl) (own_W hw 3 rfl) (by decide) (by decide)) (g := (mkF m 62 #[.val (.int (3 : Int32)), .val (.int pdelays3_1)] [(.int (0 : Int32)), (.int pdelays3_1), (.int (0 : Int32)), (.ref bndelays3_1), (.ref bndelays3_1)])) rfl (by rw [hml]; rfl) (argsL := [(.int pdelays3_1), (.int (0 : Int32))]) (rest := [(.int (0 : Int32)), (.ref bndelays3_1), (.ref bndelays3_1)]) (lenOf own_pd3 rfl) rfl (by show 2 * 0 + _ ≤ _; exact Nat.le_of_eq rfl) (hb hby own_d4_62) (fun _ _ => ⟨rfl, endelays3_1, (by decide : 1 + 0 ≤ _), (by decide : 3 + 0 ≤ _)⟩)
  dsimp only [Pt.U, Pt.locs, Pt.cells, Pt.slots] at Xkdelays3_3 lkdelays3_3 ykdelays3_3 zkdelays3_3 stkdelays3_3 hQkdelays3_3
  replace lkdelays3_3 := lkdelays3_3.symm; replace ykdelays3_3 := ykdelays3_3.symm; replace zkdelays3_3 := zkdelays3_3.symm; subst lkdelays3_3 ykdelays3_3 zkdelays3_3
  obtain ⟨rfl, Nkdelays3_3q, ekdelays3_3⟩ := hQkdelays3_3
  have Nkdelays3_3 := Fr.app N0 Nkdelays3_3q
  have Oodelays3_4 := V_bndelays3_1
  obtain ⟨clodelays3_4, Arodelays3_4, qodelays3_4, Sodelays3_4, Nodelays3_4, Hodelays3_4, Godelays3_4⟩ := Oodelays3_4
  have hinodelays3_4 : ¬ ((0 : Int32) < 0 ∨ clodelays3_4.slots.size ≤ ((0 : Int32)).toNatClampNeg) := inb_of Sodelays3_4 ⟨by decide, by decide⟩
  obtain ⟨Todelays3_4, hodelays3_4, Xodelays3_4, eodelays3_4, Wodelays3_4, stodelays3_4⟩ := stD Xkdelays3_3 hx hZ ekdelays3_3 Arodelays3_4 (j := (0 : Int32)) hinodelays3_4 (g := (mkF m 65 #[.val (.int (3 : Int32)), .val (.int pdelays3_1)] [(.double (own_j10_0 pdelays3_1 (0 : Int32))), (.int (0 : Int32)), (.ref bndelays3_1), (.ref bndelays3_1)])) rfl rfl (hb hby own_d4_65)
  have Vwodelays3_4 : Arv Z hodelays3_4 bndelays3_1 kndelays3_1 .double (3 : Int32) [(.double (own_vdelays3_0 pdelays3_1)), (.double (0 : UInt64)), (.double (0 : UInt64))] (.double (0 : UInt64)) := Arv.set Arodelays3_4 qodelays3_4 Sodelays3_4 Nodelays3_4 Hodelays3_4 Godelays3_4 rfl Wodelays3_4 0 rfl (Nat.le_of_ble_eq_true rfl)
  have szdelays3_5 : h0.size ≤ hodelays3_4.size := Nat.le_trans szdelays3_2 (Nat.le_of_eq Wodelays3_4.size.symm)
  have Nfodelays3_4 := Fr.snoc Xodelays3_4 Nkdelays3_3 g_bndelays3_1
  obtain ⟨_, _, ⟨Tkdelays3_6, Lkdelays3_6, kkdelays3_6, nkdelays3_6⟩, -, Xkdelays3_6, ⟨Lckdelays3_6, hQkdelays3_6, lkdelays3_6, ykdelays3_6, zkdelays3_6⟩, stkdelays3_6⟩ := Jvm.LawKit.callS Xodelays3_4 hx (y := (⟨"com/example/arborway/arborway/sim/WalkRunningCountPinLaw", "del", "(II)D"⟩ : MethodName)) hown (mvT hZ (own_W hw 47 rfl)) (mvT hZ (own_W hw 48 rfl)) (mvT hZ (own_W hw 3 rfl)) (mvT hZ (own_W hw 49 rfl)) (by decide) (backOf (W := 3) (own_rm10 l Z a0 hw [] pdelays3_1 (1 : Int32) hodelays3_4 n0 (Nat.le_trans Z0 szdelays3_5)) hZ (own_W hw 49 rfl) (own_W hw 3 rfl) (by decide) (by decide)) (g := (mkF m 70 #[.val (.int (3 : Int32)), .val (.int pdelays3_1)] [(.int (1 : Int32)), (.int pdelays3_1), (.int (1 : Int32)), (.ref bndelays3_1), (.ref bndelays3_1)])) rfl (by rw [hml]; rfl) (argsL := [(.int pdelays3_1), (.int (1 : Int32))]) (rest := [(.int (1 : Int32)), (.ref bndelays3_1), (.ref bndelays3_1)]) (lenOf own_pd3 rfl) rfl (by show 2 * 0 + _ ≤ _; exact Nat.le_of_eq rfl) (hb hby own_d4_70) (fun _ _ => ⟨rfl, eodelays3_4, (by decide : 1 + 0 ≤ _), (by decide : 3 + 0 ≤ _)⟩)
  dsimp only [Pt.U, Pt.locs, Pt.cells, Pt.slots] at Xkdelays3_6 lkdelays3_6 ykdelays3_6 zkdelays3_6 stkdelays3_6 hQkdelays3_6
  replace lkdelays3_6 := lkdelays3_6.symm; replace ykdelays3_6 := ykdelays3_6.symm; replace zkdelays3_6 := zkdelays3_6.symm; subst lkdelays3_6 ykdelays3_6 zkdelays3_6
  obtain ⟨rfl, Nkdelays3_6q, ekdelays3_6⟩ := hQkdelays3_6
  have Nkdelays3_6 := Fr.app Nfodelays3_4 Nkdelays3_6q
  have Oodelays3_7 := Vwodelays3_4
  obtain ⟨clodelays3_7, Arodelays3_7, qodelays3_7, Sodelays3_7, Nodelays3_7, Hodelays3_7, Godelays3_7⟩ := Oodelays3_7
  have hinodelays3_7 : ¬ ((1 : Int32) < 0 ∨ clodelays3_7.slots.size ≤ ((1 : Int32)).toNatClampNeg) := inb_of Sodelays3_7 ⟨by decide, by decide⟩
  obtain ⟨Todelays3_7, hodelays3_7, Xodelays3_7, eodelays3_7, Wodelays3_7, stodelays3_7⟩ := stD Xkdelays3_6 hx hZ ekdelays3_6 Arodelays3_7 (j := (1 : Int32)) hinodelays3_7 (g := (mkF m 73 #[.val (.int (3 : Int32)), .val (.int pdelays3_1)] [(.double (own_j10_0 pdelays3_1 (1 : Int32))), (.int (1 : Int32)), (.ref bndelays3_1), (.ref bndelays3_1)])) rfl rfl (hb hby own_d4_73)
  have Vwodelays3_7 : Arv Z hodelays3_7 bndelays3_1 kndelays3_1 .double (3 : Int32) [(.double (own_vdelays3_0 pdelays3_1)), (.double (own_vdelays3_1 pdelays3_1)), (.double (0 : UInt64))] (.double (0 : UInt64)) := Arv.set Arodelays3_7 qodelays3_7 Sodelays3_7 Nodelays3_7 Hodelays3_7 Godelays3_7 rfl Wodelays3_7 1 rfl (Nat.le_of_ble_eq_true rfl)
  have szdelays3_8 : h0.size ≤ hodelays3_7.size := Nat.le_trans szdelays3_5 (Nat.le_of_eq Wodelays3_7.size.symm)
  have Nfodelays3_7 := Fr.snoc Xodelays3_7 Nkdelays3_6 g_bndelays3_1
  obtain ⟨_, _, ⟨Tkdelays3_9, Lkdelays3_9, kkdelays3_9, nkdelays3_9⟩, -, Xkdelays3_9, ⟨Lckdelays3_9, hQkdelays3_9, lkdelays3_9, ykdelays3_9, zkdelays3_9⟩, stkdelays3_9⟩ := Jvm.LawKit.callS Xodelays3_7 hx (y := (⟨"com/example/arborway/arborway/sim/WalkRunningCountPinLaw", "del", "(II)D"⟩ : MethodName)) hown (mvT hZ (own_W hw 47 rfl)) (mvT hZ (own_W hw 48 rfl)) (mvT hZ (own_W hw 3 rfl)) (mvT hZ (own_W hw 49 rfl)) (by decide) (backOf (W := 3) (own_rm10 l Z a0 hw [] pdelays3_1 (2 : Int32) hodelays3_7 n0 (Nat.le_trans Z0 szdelays3_8)) hZ (own_W hw 49 rfl) (own_W hw 3 rfl) (by decide) (by decide)) (g := (mkF m 78 #[.val (.int (3 : Int32)), .val (.int pdelays3_1)] [(.int (2 : Int32)), (.int pdelays3_1), (.int (2 : Int32)), (.ref bndelays3_1), (.ref bndelays3_1)])) rfl (by rw [hml]; rfl) (argsL := [(.int pdelays3_1), (.int (2 : Int32))]) (rest := [(.int (2 : Int32)), (.ref bndelays3_1), (.ref bndelays3_1)]) (lenOf own_pd3 rfl) rfl (by show 2 * 0 + _ ≤ _; exact Nat.le_of_eq rfl) (hb hby own_d4_78) (fun _ _ => ⟨rfl, eodelays3_7, (by decide : 1 + 0 ≤ _), (by decide : 3 + 0 ≤ _)⟩)
  dsimp only [Pt.U, Pt.locs, Pt.cells, Pt.slots] at Xkdelays3_9 lkdelays3_9 ykdelays3_9 zkdelays3_9 stkdelays3_9 hQkdelays3_9
  replace lkdelays3_9 := lkdelays3_9.symm; replace ykdelays3_9 := ykdelays3_9.symm; replace zkdelays3_9 := zkdelays3_9.symm; subst lkdelays3_9 ykdelays3_9 zkdelays3_9
  obtain ⟨rfl, Nkdelays3_9q, ekdelays3_9⟩ := hQkdelays3_9
  have Nkdelays3_9 := Fr.app Nfodelays3_7 Nkdelays3_9q
  have Oodelays3_10 := Vwodelays3_7
  obtain ⟨clodelays3_10, Arodelays3_10, qodelays3_10, Sodelays3_10, Nodelays3_10, Hodelays3_10, Godelays3_10⟩ := Oodelays3_10
  have hinodelays3_10 : ¬ ((2 : Int32) < 0 ∨ clodelays3_10.slots.size ≤ ((2 : Int32)).toNatClampNeg) := inb_of Sodelays3_10 ⟨by decide, by decide⟩
  obtain ⟨Todelays3_10, hodelays3_10, Xodelays3_10, eodelays3_10, Wodelays3_10, stodelays3_10⟩ := stD Xkdelays3_9 hx hZ ekdelays3_9 Arodelays3_10 (j := (2 : Int32)) hinodelays3_10 (g := (mkF m 81 #[.val (.int (3 : Int32)), .val (.int pdelays3_1)] [(.double (own_j10_0 pdelays3_1 (2 : Int32))), (.int (2 : Int32)), (.ref bndelays3_1), (.ref bndelays3_1)])) rfl rfl (hb hby own_d4_81)
  have Vwodelays3_10 : Arv Z hodelays3_10 bndelays3_1 kndelays3_1 .double (3 : Int32) [(.double (own_vdelays3_0 pdelays3_1)), (.double (own_vdelays3_1 pdelays3_1)), (.double (own_vdelays3_2 pdelays3_1))] (.double (0 : UInt64)) := Arv.set Arodelays3_10 qodelays3_10 Sodelays3_10 Nodelays3_10 Hodelays3_10 Godelays3_10 rfl Wodelays3_10 2 rfl (Nat.le_of_ble_eq_true rfl)
  have szdelays3_11 : h0.size ≤ hodelays3_10.size := Nat.le_trans szdelays3_8 (Nat.le_of_eq Wodelays3_10.size.symm)
  have Nfodelays3_10 := Fr.snoc Xodelays3_10 Nkdelays3_9 g_bndelays3_1
  obtain ⟨fs, hr, hrun, hended, hW, hsame⟩ := Xodelays3_10.leave (v := some (.ref bndelays3_1)) (fun h => by rw [Bd.returns] at h; cases h)
  refine ⟨_, _, pre0 _ (?_), hrun, hended, _, _, rfl, ?_, ⟨_, rfl⟩, hW, hsame.mono (by decide) (by decide)⟩
  · show Steps p.tables e below (s₁.setTop (mkF m 0 #[.val (.int (3 : Int32)), .val (.int pdelays3_1)] [])) _
    refine XS.iloadN X0.here hx rfl (hb hby own_d4_0) rfl ?_
    refine XS.ifYes X0.here hx rfl (pc0 := 1) (pc' := 8) rfl (hb hby own_d4_1) rfl (XT.i0_ne_t (by decide : ¬ ((3 : Int32) = (0 : Int32)))) (by decide) (by decide) ?_
    refine XS.iloadN X0.here hx rfl (hb hby own_d4_8) rfl ?_
    refine XS.iconst X0.here hx rfl (hb hby own_d4_9) ?_
    refine XS.icmpYes X0.here hx rfl (pc0 := 10) (pc' := 25) rfl (hb hby own_d4_10) rfl (XT.ii_ne_t (by decide : ¬ ((3 : Int32) = (1 : Int32)))) (by decide) (by decide) ?_
    refine XS.iloadN X0.here hx rfl (hb hby own_d4_25) rfl ?_
    refine XS.iconst X0.here hx rfl (hb hby own_d4_26) ?_
    refine XS.icmpYes X0.here hx rfl (pc0 := 27) (pc' := 50) rfl (hb hby own_d4_27) rfl (XT.ii_ne_t (by decide : ¬ ((3 : Int32) = (2 : Int32)))) (by decide) (by decide) ?_
    refine XS.iloadN X0.here hx rfl (hb hby own_d4_50) rfl ?_
    refine XS.iconst X0.here hx rfl (hb hby own_d4_51) ?_
    refine XS.icmpNo X0.here hx rfl (hb hby own_d4_52) rfl (XT.ii_ne_f (by decide : (3 : Int32) = (3 : Int32))) ?_
    refine XS.iconst X0.here hx rfl (hb hby own_d4_55) ?_
    refine stndelays3_1 _ ?_
    show Steps p.tables e below (Tndelays3_1.setTop (mkF m 58 #[.val (.int (3 : Int32)), .val (.int pdelays3_1)] [(.ref bndelays3_1)])) _
    refine XS.dup Xndelays3_1.here hx rfl (hb hby own_d4_58) rfl rfl ?_
    refine XS.iconst Xndelays3_1.here hx rfl (hb hby own_d4_59) ?_
    refine XS.iloadN Xndelays3_1.here hx rfl (hb hby own_d4_60) rfl ?_
    refine XS.iconst Xndelays3_1.here hx rfl (hb hby own_d4_61) ?_
    refine stkdelays3_3 _ ?_
    show Steps p.tables e below (Tkdelays3_3.setTop (mkF m 65 #[.val (.int (3 : Int32)), .val (.int pdelays3_1)] [(.double (own_j10_0 pdelays3_1 (0 : Int32))), (.int (0 : Int32)), (.ref bndelays3_1), (.ref bndelays3_1)])) _
    refine stodelays3_4 _ ?_
    show Steps p.tables e below (Todelays3_4.setTop (mkF m 66 #[.val (.int (3 : Int32)), .val (.int pdelays3_1)] [(.ref bndelays3_1)])) _
    refine XS.dup Xodelays3_4.here hx rfl (hb hby own_d4_66) rfl rfl ?_
    refine XS.iconst Xodelays3_4.here hx rfl (hb hby own_d4_67) ?_
    refine XS.iloadN Xodelays3_4.here hx rfl (hb hby own_d4_68) rfl ?_
    refine XS.iconst Xodelays3_4.here hx rfl (hb hby own_d4_69) ?_
    refine stkdelays3_6 _ ?_
    show Steps p.tables e below (Tkdelays3_6.setTop (mkF m 73 #[.val (.int (3 : Int32)), .val (.int pdelays3_1)] [(.double (own_j10_0 pdelays3_1 (1 : Int32))), (.int (1 : Int32)), (.ref bndelays3_1), (.ref bndelays3_1)])) _
    refine stodelays3_7 _ ?_
    show Steps p.tables e below (Todelays3_7.setTop (mkF m 74 #[.val (.int (3 : Int32)), .val (.int pdelays3_1)] [(.ref bndelays3_1)])) _
    refine XS.dup Xodelays3_7.here hx rfl (hb hby own_d4_74) rfl rfl ?_
    refine XS.iconst Xodelays3_7.here hx rfl (hb hby own_d4_75) ?_
    refine XS.iloadN Xodelays3_7.here hx rfl (hb hby own_d4_76) rfl ?_
    refine XS.iconst Xodelays3_7.here hx rfl (hb hby own_d4_77) ?_
    refine stkdelays3_9 _ ?_
    show Steps p.tables e below (Tkdelays3_9.setTop (mkF m 81 #[.val (.int (3 : Int32)), .val (.int pdelays3_1)] [(.double (own_j10_0 pdelays3_1 (2 : Int32))), (.int (2 : Int32)), (.ref bndelays3_1), (.ref bndelays3_1)])) _
    refine stodelays3_10 _ ?_
    show Steps p.tables e below (Todelays3_10.setTop (mkF m 82 #[.val (.int (3 : Int32)), .val (.int pdelays3_1)] [(.ref bndelays3_1)])) _
    jvm_step Xodelays3_10.here [Xodelays3_10.here.top, hx, (hb hby own_d4_82), Xodelays3_10.method', Bd.returns, Value.isRef, FieldType.isReference]
    first | (intro acts; rw [hr _ acts rfl rfl rfl]) | rw [hr _ _ rfl rfl rfl]
    exact Steps.refl _
  · show own_Qdelays3 Z pdelays3_1 h0 n0 _ Todelays3_10.heap _
    rw [eodelays3_10]
    exact ⟨bndelays3_1, kndelays3_1, rfl, Nfodelays3_10, (((((Keep.refl h0 []).ext Endelays3_1).wr Wodelays3_4 (Or.inr sz_bndelays3_1)).wr Wodelays3_7 (Or.inr sz_bndelays3_1)).wr Wodelays3_10 (Or.inr sz_bndelays3_1)), sz_bndelays3_1, Vwodelays3_10⟩
theorem own_d4_83 : decode method_7_code 83 = .ok (.iload_n 0, 1) := by decide +kernel
theorem own_d4_84 : decode method_7_code 84 = .ok (.iconst 4, 1) := by decide +kernel
theorem own_d4_85 : decode method_7_code 85 = .ok (.if_icmp .ne 39, 3) := by decide +kernel
theorem own_d4_88 : decode method_7_code 88 = .ok (.iconst 4, 1) := by decide +kernel
theorem own_d4_89 : decode method_7_code 89 = .ok (.newarray .double, 2) := by decide +kernel
theorem own_d4_91 : decode method_7_code 91 = .ok (.dup, 1) := by decide +kernel
theorem own_d4_92 : decode method_7_code 92 = .ok (.iconst 0, 1) := by decide +kernel
theorem own_d4_93 : decode method_7_code 93 = .ok (.iload_n 1, 1) := by decide +kernel
theorem own_d4_94 : decode method_7_code 94 = .ok (.iconst 0, 1) := by decide +kernel
theorem own_d4_95 : decode method_7_code 95 = .ok (.invokestatic 19, 3) := by decide +kernel
theorem own_d4_98 : decode method_7_code 98 = .ok (.dastore, 1) := by decide +kernel
theorem own_d4_99 : decode method_7_code 99 = .ok (.dup, 1) := by decide +kernel
theorem own_d4_100 : decode method_7_code 100 = .ok (.iconst 1, 1) := by decide +kernel
theorem own_d4_101 : decode method_7_code 101 = .ok (.iload_n 1, 1) := by decide +kernel
theorem own_d4_102 : decode method_7_code 102 = .ok (.iconst 1, 1) := by decide +kernel
theorem own_d4_103 : decode method_7_code 103 = .ok (.invokestatic 19, 3) := by decide +kernel
theorem own_d4_106 : decode method_7_code 106 = .ok (.dastore, 1) := by decide +kernel
theorem own_d4_107 : decode method_7_code 107 = .ok (.dup, 1) := by decide +kernel
theorem own_d4_108 : decode method_7_code 108 = .ok (.iconst 2, 1) := by decide +kernel
theorem own_d4_109 : decode method_7_code 109 = .ok (.iload_n 1, 1) := by decide +kernel
theorem own_d4_110 : decode method_7_code 110 = .ok (.iconst 2, 1) := by decide +kernel
theorem own_d4_111 : decode method_7_code 111 = .ok (.invokestatic 19, 3) := by decide +kernel
theorem own_d4_114 : decode method_7_code 114 = .ok (.dastore, 1) := by decide +kernel
theorem own_d4_115 : decode method_7_code 115 = .ok (.dup, 1) := by decide +kernel
theorem own_d4_116 : decode method_7_code 116 = .ok (.iconst 3, 1) := by decide +kernel
theorem own_d4_117 : decode method_7_code 117 = .ok (.iload_n 1, 1) := by decide +kernel
theorem own_d4_118 : decode method_7_code 118 = .ok (.iconst 3, 1) := by decide +kernel
theorem own_d4_119 : decode method_7_code 119 = .ok (.invokestatic 19, 3) := by decide +kernel
theorem own_d4_122 : decode method_7_code 122 = .ok (.dastore, 1) := by decide +kernel
theorem own_d4_123 : decode method_7_code 123 = .ok (.areturn, 1) := by decide +kernel
def own_vdelays4_0 (pdelays4_1 : Int32) : UInt64 := (own_j10_0 pdelays4_1 (0 : Int32))
def own_vdelays4_1 (pdelays4_1 : Int32) : UInt64 := (own_j10_0 pdelays4_1 (1 : Int32))
def own_vdelays4_2 (pdelays4_1 : Int32) : UInt64 := (own_j10_0 pdelays4_1 (2 : Int32))
def own_vdelays4_3 (pdelays4_1 : Int32) : UInt64 := (own_j10_0 pdelays4_1 (3 : Int32))
theorem own_efdelays4 (m : MethodId) (pdelays4_1 : Int32) : entryFrame m #[(.int (4 : Int32)), (.int pdelays4_1)] 2 = mkF m 0 #[.val (.int (4 : Int32)), .val (.int pdelays4_1)] [] := by first | (simp [entryFrame, mkF, argsToLocals, Value.category]; done) | rfl
def own_Qdelays4 (Z : State) (pdelays4_1 : Int32) (h0 : Heap) (n0 : Nat) (v : Option Value) (h : Heap) (L : List Loc) : Prop := ∃ (bndelays4_1 : Addr) (kndelays4_1 : ClassId), v = some (.ref bndelays4_1) ∧ Fr n0 L ∧ Keep h0 h [] ∧ h0.size ≤ bndelays4_1 ∧ Arv Z h bndelays4_1 kndelays4_1 .double (4 : Int32) [(.double (own_vdelays4_0 pdelays4_1)), (.double (own_vdelays4_1 pdelays4_1)), (.double (own_vdelays4_2 pdelays4_1)), (.double (own_vdelays4_3 pdelays4_1))] (.double (0 : UInt64))
set_option maxRecDepth 65536 in
set_option maxHeartbeats 40000000 in
theorem own_rmdelays4 (l : Launch) (Z : State) (a0 : Array Value) (hw : ∀ d ∈ tables_1, d.before a0 Z = true) (ws : List Jvm.Cond) (pdelays4_1 : Int32) (h0 : Heap) (n0 : Nat) (Z0 : n0 ≤ h0.size) :
    MetFree l (⟨"com/example/arborway/arborway/sim/WalkRunningCountPinLaw", "delays", "(II)[D"⟩ : MethodName) (head1 (Jvm.Cond.code (⟨"com/example/arborway/arborway/sim/WalkRunningCountPinLaw", "delays", "(II)[D"⟩ : MethodName) method_7_code 2 (some (.array .double)) :: ws) ({ frames := 2, cells := 1, slots := 4, locals := 29 } : Room)) (fun a U => a = #[(.int (4 : Int32)), (.int pdelays4_1)] ∧ Z.Warmed39 U.vm ∧ U.heap = h0) (fun _ _ _ _ _ => True) (fun _ U o U' => ∃ v L, o = .returned v ∧ own_Qdelays4 Z pdelays4_1 h0 n0 v U'.heap L ∧ FrameEnd U o U' L ({ frames := 2, cells := 1, slots := 4, locals := 29 } : Room).cells ({ frames := 2, cells := 1, slots := 4, locals := 29 } : Room).slots) := by
  refine MetFree.of_bodySF (plainFor_of_name own_pn0) hisR ?_
  intro p e s m args below meth c s₁ Bd hml0 hP hK
  obtain ⟨rfl, hZ, hh⟩ := hP
  have hx := Bd.exec
  have hby := Bd.bytes
  have hml : c.maxLocals = 2 := hml0
  have hown : s.vm.findClass "com/example/arborway/arborway/sim/WalkRunningCountPinLaw" = some m.cls := findClass_of_methodNamed Bd.named
  have hnm := (name_of_methodNamed Bd.named Bd.method).1
  have X0 : Stand p l e ({ frames := 2, cells := 1, slots := 4, locals := 29 } : Room) s m #[(.int (4 : Int32)), (.int pdelays4_1)] below meth c s₁ [] 0 0 := Stand.of_body Bd
  have e0 : s₁.heap = h0 := by rw [← hh, Bd.state]; rfl
  have N0 := Fr.nil n0
  have Zr : h0.size ≤ h0.size := Nat.le_refl _
  have pre0 : ∀ t, Steps p.tables e below (s₁.setTop (mkF m 0 #[.val (.int (4 : Int32)), .val (.int pdelays4_1)] [])) t → Steps p.tables e below (s₁.setTop (entryFrame m #[(.int (4 : Int32)), (.int pdelays4_1)] 2)) t := fun t k => castTop (own_efdelays4 m pdelays4_1) k
  obtain ⟨Tndelays4_1, hndelays4_1, kndelays4_1, Xndelays4_1, endelays4_1, Endelays4_1, Andelays4_1, stndelays4_1⟩ := newP X0 hx hZ (own_W hw 16 rfl) e0 (g := (mkF m 89 #[.val (.int (4 : Int32)), .val (.int pdelays4_1)] [(.int (4 : Int32))])) rfl (hb hby own_d4_89) rfl (by decide) (cap := 4) (by decide) (by decide) (by decide) (by decide)
  obtain ⟨bndelays4_1, gndelays4_1⟩ : ∃ z, z = h0.size := ⟨_, rfl⟩
  rw [← gndelays4_1] at Andelays4_1 stndelays4_1
  have g_bndelays4_1 : n0 ≤ bndelays4_1 := Nat.le_trans Z0 (Nat.le_of_eq gndelays4_1.symm)
  have sz_bndelays4_1 : h0.size ≤ bndelays4_1 := Nat.le_trans Zr (Nat.le_of_eq gndelays4_1.symm)
  have szdelays4_2 : h0.size ≤ hndelays4_1.size := Nat.le_trans Zr Endelays4_1.1
  have V_bndelays4_1 : Arv Z hndelays4_1 bndelays4_1 kndelays4_1 .double (4 : Int32) [(.double (0 : UInt64)), (.double (0 : UInt64)), (.double (0 : UInt64)), (.double (0 : UInt64))] (.double (0 : UInt64)) := (Arv.new Andelays4_1 (by decide)).pad (pad_rep [] (.double (0 : UInt64)) 4)
  obtain ⟨_, _, ⟨Tkdelays4_3, Lkdelays4_3, kkdelays4_3, nkdelays4_3⟩, -, Xkdelays4_3, ⟨Lckdelays4_3, hQkdelays4_3, lkdelays4_3, ykdelays4_3, zkdelays4_3⟩, stkdelays4_3⟩ := Jvm.LawKit.callS Xndelays4_1 hx (y := (⟨"com/example/arborway/arborway/sim/WalkRunningCountPinLaw", "del", "(II)D"⟩ : MethodName)) hown (mvT hZ (own_W hw 47 rfl)) (mvT hZ (own_W hw 48 rfl)) (mvT hZ (own_W hw 3 rfl)) (mvT hZ (own_W hw 49 rfl)) (by decide) (backOf (W := 3) (own_rm10 l Z a0 hw [] pdelays4_1 (0 : Int32) hndelays4_1 n0 (Nat.le_trans Z0 szdelays4_2)) hZ (own_W hw 49 rfl) (own_W hw 3 rfl) (by decide) (by decide)) (g := (mkF m 95 #[.val (.int (4 : Int32)), .val (.int pdelays4_1)] [(.int (0 : Int32)), (.int pdelays4_1), (.int (0 : Int32)), (.ref bndelays4_1), (.ref bndelays4_1)])) rfl (by rw [hml]; rfl) (argsL := [(.int pdelays4_1), (.int (0 : Int32))]) (rest := [(.int (0 : Int32)), (.ref bndelays4_1), (.ref bndelays4_1)]) (lenOf own_pd3 rfl) rfl (by show 2 * 0 + _ ≤ _; exact Nat.le_of_eq rfl) (hb hby own_d4_95) (fun _ _ => ⟨rfl, endelays4_1, (by decide : 1 + 0 ≤ _), (by decide : 4 + 0 ≤ _)⟩)
  dsimp only [Pt.U, Pt.locs, Pt.cells, Pt.slots] at Xkdelays4_3 lkdelays4_3 ykdelays4_3 zkdelays4_3 stkdelays4_3 hQkdelays4_3
  replace lkdelays4_3 := lkdelays4_3.symm; replace ykdelays4_3 := ykdelays4_3.symm; replace zkdelays4_3 := zkdelays4_3.symm; subst lkdelays4_3 ykdelays4_3 zkdelays4_3
  obtain ⟨rfl, Nkdelays4_3q, ekdelays4_3⟩ := hQkdelays4_3
  have Nkdelays4_3 := Fr.app N0 Nkdelays4_3q
  have Oodelays4_4 := V_bndelays4_1
  obtain ⟨clodelays4_4, Arodelays4_4, qodelays4_4, Sodelays4_4, Nodelays4_4, Hodelays4_4, Godelays4_4⟩ := Oodelays4_4
  have hinodelays4_4 : ¬ ((0 : Int32) < 0 ∨ clodelays4_4.slots.size ≤ ((0 : Int32)).toNatClampNeg) := inb_of Sodelays4_4 ⟨by decide, by decide⟩
  obtain ⟨Todelays4_4, hodelays4_4, Xodelays4_4, eodelays4_4, Wodelays4_4, stodelays4_4⟩ := stD Xkdelays4_3 hx hZ ekdelays4_3 Arodelays4_4 (j := (0 : Int32)) hinodelays4_4 (g := (mkF m 98 #[.val (.int (4 : Int32)), .val (.int pdelays4_1)] [(.double (own_j10_0 pdelays4_1 (0 : Int32))), (.int (0 : Int32)), (.ref bndelays4_1), (.ref bndelays4_1)])) rfl rfl (hb hby own_d4_98)
  have Vwodelays4_4 : Arv Z hodelays4_4 bndelays4_1 kndelays4_1 .double (4 : Int32) [(.double (own_vdelays4_0 pdelays4_1)), (.double (0 : UInt64)), (.double (0 : UInt64)), (.double (0 : UInt64))] (.double (0 : UInt64)) := Arv.set Arodelays4_4 qodelays4_4 Sodelays4_4 Nodelays4_4 Hodelays4_4 Godelays4_4 rfl Wodelays4_4 0 rfl (Nat.le_of_ble_eq_true rfl)
  have szdelays4_5 : h0.size ≤ hodelays4_4.size := Nat.le_trans szdelays4_2 (Nat.le_of_eq Wodelays4_4.size.symm)
  have Nfodelays4_4 := Fr.snoc Xodelays4_4 Nkdelays4_3 g_bndelays4_1
  obtain ⟨_, _, ⟨Tkdelays4_6, Lkdelays4_6, kkdelays4_6, nkdelays4_6⟩, -, Xkdelays4_6, ⟨Lckdelays4_6, hQkdelays4_6, lkdelays4_6, ykdelays4_6, zkdelays4_6⟩, stkdelays4_6⟩ := Jvm.LawKit.callS Xodelays4_4 hx (y := (⟨"com/example/arborway/arborway/sim/WalkRunningCountPinLaw", "del", "(II)D"⟩ : MethodName)) hown (mvT hZ (own_W hw 47 rfl)) (mvT hZ (own_W hw 48 rfl)) (mvT hZ (own_W hw 3 rfl)) (mvT hZ (own_W hw 49 rfl)) (by decide) (backOf (W := 3) (own_rm10 l Z a0 hw [] pdelays4_1 (1 : Int32) hodelays4_4 n0 (Nat.le_trans Z0 szdelays4_5)) hZ (own_W hw 49 rfl) (own_W hw 3 rfl) (by decide) (by decide)) (g := (mkF m 103 #[.val (.int (4 : Int32)), .val (.int pdelays4_1)] [(.int (1 : Int32)), (.int pdelays4_1), (.int (1 : Int32)), (.ref bndelays4_1), (.ref bndelays4_1)])) rfl (by rw [hml]; rfl) (argsL := [(.int pdelays4_1), (.int (1 : Int32))]) (rest := [(.int (1 : Int32)), (.ref bndelays4_1), (.ref bndelays4_1)]) (lenOf own_pd3 rfl) rfl (by show 2 * 0 + _ ≤ _; exact Nat.le_of_eq rfl) (hb hby own_d4_103) (fun _ _ => ⟨rfl, eodelays4_4, (by decide : 1 + 0 ≤ _), (by decide : 4 + 0 ≤ _)⟩)
  dsimp only [Pt.U, Pt.locs, Pt.cells, Pt.slots] at Xkdelays4_6 lkdelays4_6 ykdelays4_6 zkdelays4_6 stkdelays4_6 hQkdelays4_6
  replace lkdelays4_6 := lkdelays4_6.symm; replace ykdelays4_6 := ykdelays4_6.symm; replace zkdelays4_6 := zkdelays4_6.symm; subst lkdelays4_6 ykdelays4_6 zkdelays4_6
  obtain ⟨rfl, Nkdelays4_6q, ekdelays4_6⟩ := hQkdelays4_6
  have Nkdelays4_6 := Fr.app Nfodelays4_4 Nkdelays4_6q
  have Oodelays4_7 := Vwodelays4_4
  obtain ⟨clodelays4_7, Arodelays4_7, qodelays4_7, Sodelays4_7, Nodelays4_7, Hodelays4_7, Godelays4_7⟩ := Oodelays4_7
  have hinodelays4_7 : ¬ ((1 : Int32) < 0 ∨ clodelays4_7.slots.size ≤ ((1 : Int32)).toNatClampNeg) := inb_of Sodelays4_7 ⟨by decide, by decide⟩
  obtain ⟨Todelays4_7, hodelays4_7, Xodelays4_7, eodelays4_7, Wodelays4_7, stodelays4_7⟩ := stD Xkdelays4_6 hx hZ ekdelays4_6 Arodelays4_7 (j := (1 : Int32)) hinodelays4_7 (g := (mkF m 106 #[.val (.int (4 : Int32)), .val (.int pdelays4_1)] [(.double (own_j10_0 pdelays4_1 (1 : Int32))), (.int (1 : Int32)), (.ref bndelays4_1), (.ref bndelays4_1)])) rfl rfl (hb hby own_d4_106)
  have Vwodelays4_7 : Arv Z hodelays4_7 bndelays4_1 kndelays4_1 .double (4 : Int32) [(.double (own_vdelays4_0 pdelays4_1)), (.double (own_vdelays4_1 pdelays4_1)), (.double (0 : UInt64)), (.double (0 : UInt64))] (.double (0 : UInt64)) := Arv.set Arodelays4_7 qodelays4_7 Sodelays4_7 Nodelays4_7 Hodelays4_7 Godelays4_7 rfl Wodelays4_7 1 rfl (Nat.le_of_ble_eq_true rfl)
  have szdelays4_8 : h0.size ≤ hodelays4_7.size := Nat.le_trans szdelays4_5 (Nat.le_of_eq Wodelays4_7.size.symm)
  have Nfodelays4_7 := Fr.snoc Xodelays4_7 Nkdelays4_6 g_bndelays4_1
  obtain ⟨_, _, ⟨Tkdelays4_9, Lkdelays4_9, kkdelays4_9, nkdelays4_9⟩, -, Xkdelays4_9, ⟨Lckdelays4_9, hQkdelays4_9, lkdelays4_9, ykdelays4_9, zkdelays4_9⟩, stkdelays4_9⟩ := Jvm.LawKit.callS Xodelays4_7 hx (y := (⟨"com/example/arborway/arborway/sim/WalkRunningCountPinLaw", "del", "(II)D"⟩ : MethodName)) hown (mvT hZ (own_W hw 47 rfl)) (mvT hZ (own_W hw 48 rfl)) (mvT hZ (own_W hw 3 rfl)) (mvT hZ (own_W hw 49 rfl)) (by decide) (backOf (W := 3) (own_rm10 l Z a0 hw [] pdelays4_1 (2 : Int32) hodelays4_7 n0 (Nat.le_trans Z0 szdelays4_8)) hZ (own_W hw 49 rfl) (own_W hw 3 rfl) (by decide) (by decide)) (g := (mkF m 111 #[.val (.int (4 : Int32)), .val (.int pdelays4_1)] [(.int (2 : Int32)), (.int pdelays4_1), (.int (2 : Int32)), (.ref bndelays4_1), (.ref bndelays4_1)])) rfl (by rw [hml]; rfl) (argsL := [(.int pdelays4_1), (.int (2 : Int32))]) (rest := [(.int (2 : Int32)), (.ref bndelays4_1), (.ref bndelays4_1)]) (lenOf own_pd3 rfl) rfl (by show 2 * 0 + _ ≤ _; exact Nat.le_of_eq rfl) (hb hby own_d4_111) (fun _ _ => ⟨rfl, eodelays4_7, (by decide : 1 + 0 ≤ _), (by decide : 4 + 0 ≤ _)⟩)
  dsimp only [Pt.U, Pt.locs, Pt.cells, Pt.slots] at Xkdelays4_9 lkdelays4_9 ykdelays4_9 zkdelays4_9 stkdelays4_9 hQkdelays4_9
  replace lkdelays4_9 := lkdelays4_9.symm; replace ykdelays4_9 := ykdelays4_9.symm; replace zkdelays4_9 := zkdelays4_9.symm; subst lkdelays4_9 ykdelays4_9 zkdelays4_9
  obtain ⟨rfl, Nkdelays4_9q, ekdelays4_9⟩ := hQkdelays4_9
  have Nkdelays4_9 := Fr.app Nfodelays4_7 Nkdelays4_9q
  have Oodelays4_10 := Vwodelays4_7
  obtain ⟨clodelays4_10, Arodelays4_10, qodelays4_10, Sodelays4_10, Nodelays4_10, Hodelays4_10, Godelays4_10⟩ := Oodelays4_10
  have hinodelays4_10 : ¬ ((2 : Int32) < 0 ∨ clodelays4_10.slots.size ≤ ((2 : Int32)).toNatClampNeg) := inb_of Sodelays4_10 ⟨by decide, by decide⟩
  obtain ⟨Todelays4_10, hodelays4_10, Xodelays4_10, eodelays4_10, Wodelays4_10, stodelays4_10⟩ := stD Xkdelays4_9 hx hZ ekdelays4_9 Arodelays4_10 (j := (2 : Int32)) hinodelays4_10 (g := (mkF m 114 #[.val (.int (4 : Int32)), .val (.int pdelays4_1)] [(.double (own_j10_0 pdelays4_1 (2 : Int32))), (.int (2 : Int32)), (.ref bndelays4_1), (.ref bndelays4_1)])) rfl rfl (hb hby own_d4_114)
  have Vwodelays4_10 : Arv Z hodelays4_10 bndelays4_1 kndelays4_1 .double (4 : Int32) [(.double (own_vdelays4_0 pdelays4_1)), (.double (own_vdelays4_1 pdelays4_1)), (.double (own_vdelays4_2 pdelays4_1)), (.double (0 : UInt64))] (.double (0 : UInt64)) := Arv.set Arodelays4_10 qodelays4_10 Sodelays4_10 Nodelays4_10 Hodelays4_10 Godelays4_10 rfl Wodelays4_10 2 rfl (Nat.le_of_ble_eq_true rfl)
  have szdelays4_11 : h0.size ≤ hodelays4_10.size := Nat.le_trans szdelays4_8 (Nat.le_of_eq Wodelays4_10.size.symm)
  have Nfodelays4_10 := Fr.snoc Xodelays4_10 Nkdelays4_9 g_bndelays4_1
  obtain ⟨_, _, ⟨Tkdelays4_12, Lkdelays4_12, kkdelays4_12, nkdelays4_12⟩, -, Xkdelays4_12, ⟨Lckdelays4_12, hQkdelays4_12, lkdelays4_12, ykdelays4_12, zkdelays4_12⟩, stkdelays4_12⟩ := Jvm.LawKit.callS Xodelays4_10 hx (y := (⟨"com/example/arborway/arborway/sim/WalkRunningCountPinLaw", "del", "(II)D"⟩ : MethodName)) hown (mvT hZ (own_W hw 47 rfl)) (mvT hZ (own_W hw 48 rfl)) (mvT hZ (own_W hw 3 rfl)) (mvT hZ (own_W hw 49 rfl)) (by decide) (backOf (W := 3) (own_rm10 l Z a0 hw [] pdelays4_1 (3 : Int32) hodelays4_10 n0 (Nat.le_trans Z0 szdelays4_11)) hZ (own_W hw 49 rfl) (own_W hw 3 rfl) (by decide) (by decide)) (g := (mkF m 119 #[.val (.int (4 : Int32)), .val (.int pdelays4_1)] [(.int (3 : Int32)), (.int pdelays4_1), (.int (3 : Int32)), (.ref bndelays4_1), (.ref bndelays4_1)])) rfl (by rw [hml]; rfl) (argsL := [(.int pdelays4_1), (.int (3 : Int32))]) (rest := [(.int (3 : Int32)), (.ref bndelays4_1), (.ref bndelays4_1)]) (lenOf own_pd3 rfl) rfl (by show 2 * 0 + _ ≤ _; exact Nat.le_of_eq rfl) (hb hby own_d4_119) (fun _ _ => ⟨rfl, eodelays4_10, (by decide : 1 + 0 ≤ _), (by decide : 4 + 0 ≤ _)⟩)
  dsimp only [Pt.U, Pt.locs, Pt.cells, Pt.slots] at Xkdelays4_12 lkdelays4_12 ykdelays4_12 zkdelays4_12 stkdelays4_12 hQkdelays4_12
  replace lkdelays4_12 := lkdelays4_12.symm; replace ykdelays4_12 := ykdelays4_12.symm; replace zkdelays4_12 := zkdelays4_12.symm; subst lkdelays4_12 ykdelays4_12 zkdelays4_12
  obtain ⟨rfl, Nkdelays4_12q, ekdelays4_12⟩ := hQkdelays4_12
  have Nkdelays4_12 := Fr.app Nfodelays4_10 Nkdelays4_12q
  have Oodelays4_13 := Vwodelays4_10
  obtain ⟨clodelays4_13, Arodelays4_13, qodelays4_13, Sodelays4_13, Nodelays4_13, Hodelays4_13, Godelays4_13⟩ := Oodelays4_13
  have hinodelays4_13 : ¬ ((3 : Int32) < 0 ∨ clodelays4_13.slots.size ≤ ((3 : Int32)).toNatClampNeg) := inb_of Sodelays4_13 ⟨by decide, by decide⟩
  obtain ⟨Todelays4_13, hodelays4_13, Xodelays4_13, eodelays4_13, Wodelays4_13, stodelays4_13⟩ := stD Xkdelays4_12 hx hZ ekdelays4_12 Arodelays4_13 (j := (3 : Int32)) hinodelays4_13 (g := (mkF m 122 #[.val (.int (4 : Int32)), .val (.int pdelays4_1)] [(.double (own_j10_0 pdelays4_1 (3 : Int32))), (.int (3 : Int32)), (.ref bndelays4_1), (.ref bndelays4_1)])) rfl rfl (hb hby own_d4_122)
  have Vwodelays4_13 : Arv Z hodelays4_13 bndelays4_1 kndelays4_1 .double (4 : Int32) [(.double (own_vdelays4_0 pdelays4_1)), (.double (own_vdelays4_1 pdelays4_1)), (.double (own_vdelays4_2 pdelays4_1)), (.double (own_vdelays4_3 pdelays4_1))] (.double (0 : UInt64)) := Arv.set Arodelays4_13 qodelays4_13 Sodelays4_13 Nodelays4_13 Hodelays4_13 Godelays4_13 rfl Wodelays4_13 3 rfl (Nat.le_of_ble_eq_true rfl)
  have szdelays4_14 : h0.size ≤ hodelays4_13.size := Nat.le_trans szdelays4_11 (Nat.le_of_eq Wodelays4_13.size.symm)
  have Nfodelays4_13 := Fr.snoc Xodelays4_13 Nkdelays4_12 g_bndelays4_1
  obtain ⟨fs, hr, hrun, hended, hW, hsame⟩ := Xodelays4_13.leave (v := some (.ref bndelays4_1)) (fun h => by rw [Bd.returns] at h; cases h)
  refine ⟨_, _, pre0 _ (?_), hrun, hended, _, _, rfl, ?_, ⟨_, rfl⟩, hW, hsame.mono (by decide) (by decide)⟩
  · show Steps p.tables e below (s₁.setTop (mkF m 0 #[.val (.int (4 : Int32)), .val (.int pdelays4_1)] [])) _
    refine XS.iloadN X0.here hx rfl (hb hby own_d4_0) rfl ?_
    refine XS.ifYes X0.here hx rfl (pc0 := 1) (pc' := 8) rfl (hb hby own_d4_1) rfl (XT.i0_ne_t (by decide : ¬ ((4 : Int32) = (0 : Int32)))) (by decide) (by decide) ?_
    refine XS.iloadN X0.here hx rfl (hb hby own_d4_8) rfl ?_
    refine XS.iconst X0.here hx rfl (hb hby own_d4_9) ?_
    refine XS.icmpYes X0.here hx rfl (pc0 := 10) (pc' := 25) rfl (hb hby own_d4_10) rfl (XT.ii_ne_t (by decide : ¬ ((4 : Int32) = (1 : Int32)))) (by decide) (by decide) ?_
    refine XS.iloadN X0.here hx rfl (hb hby own_d4_25) rfl ?_
    refine XS.iconst X0.here hx rfl (hb hby own_d4_26) ?_
    refine XS.icmpYes X0.here hx rfl (pc0 := 27) (pc' := 50) rfl (hb hby own_d4_27) rfl (XT.ii_ne_t (by decide : ¬ ((4 : Int32) = (2 : Int32)))) (by decide) (by decide) ?_
    refine XS.iloadN X0.here hx rfl (hb hby own_d4_50) rfl ?_
    refine XS.iconst X0.here hx rfl (hb hby own_d4_51) ?_
    refine XS.icmpYes X0.here hx rfl (pc0 := 52) (pc' := 83) rfl (hb hby own_d4_52) rfl (XT.ii_ne_t (by decide : ¬ ((4 : Int32) = (3 : Int32)))) (by decide) (by decide) ?_
    refine XS.iloadN X0.here hx rfl (hb hby own_d4_83) rfl ?_
    refine XS.iconst X0.here hx rfl (hb hby own_d4_84) ?_
    refine XS.icmpNo X0.here hx rfl (hb hby own_d4_85) rfl (XT.ii_ne_f (by decide : (4 : Int32) = (4 : Int32))) ?_
    refine XS.iconst X0.here hx rfl (hb hby own_d4_88) ?_
    refine stndelays4_1 _ ?_
    show Steps p.tables e below (Tndelays4_1.setTop (mkF m 91 #[.val (.int (4 : Int32)), .val (.int pdelays4_1)] [(.ref bndelays4_1)])) _
    refine XS.dup Xndelays4_1.here hx rfl (hb hby own_d4_91) rfl rfl ?_
    refine XS.iconst Xndelays4_1.here hx rfl (hb hby own_d4_92) ?_
    refine XS.iloadN Xndelays4_1.here hx rfl (hb hby own_d4_93) rfl ?_
    refine XS.iconst Xndelays4_1.here hx rfl (hb hby own_d4_94) ?_
    refine stkdelays4_3 _ ?_
    show Steps p.tables e below (Tkdelays4_3.setTop (mkF m 98 #[.val (.int (4 : Int32)), .val (.int pdelays4_1)] [(.double (own_j10_0 pdelays4_1 (0 : Int32))), (.int (0 : Int32)), (.ref bndelays4_1), (.ref bndelays4_1)])) _
    refine stodelays4_4 _ ?_
    show Steps p.tables e below (Todelays4_4.setTop (mkF m 99 #[.val (.int (4 : Int32)), .val (.int pdelays4_1)] [(.ref bndelays4_1)])) _
    refine XS.dup Xodelays4_4.here hx rfl (hb hby own_d4_99) rfl rfl ?_
    refine XS.iconst Xodelays4_4.here hx rfl (hb hby own_d4_100) ?_
    refine XS.iloadN Xodelays4_4.here hx rfl (hb hby own_d4_101) rfl ?_
    refine XS.iconst Xodelays4_4.here hx rfl (hb hby own_d4_102) ?_
    refine stkdelays4_6 _ ?_
    show Steps p.tables e below (Tkdelays4_6.setTop (mkF m 106 #[.val (.int (4 : Int32)), .val (.int pdelays4_1)] [(.double (own_j10_0 pdelays4_1 (1 : Int32))), (.int (1 : Int32)), (.ref bndelays4_1), (.ref bndelays4_1)])) _
    refine stodelays4_7 _ ?_
    show Steps p.tables e below (Todelays4_7.setTop (mkF m 107 #[.val (.int (4 : Int32)), .val (.int pdelays4_1)] [(.ref bndelays4_1)])) _
    refine XS.dup Xodelays4_7.here hx rfl (hb hby own_d4_107) rfl rfl ?_
    refine XS.iconst Xodelays4_7.here hx rfl (hb hby own_d4_108) ?_
    refine XS.iloadN Xodelays4_7.here hx rfl (hb hby own_d4_109) rfl ?_
    refine XS.iconst Xodelays4_7.here hx rfl (hb hby own_d4_110) ?_
    refine stkdelays4_9 _ ?_
    show Steps p.tables e below (Tkdelays4_9.setTop (mkF m 114 #[.val (.int (4 : Int32)), .val (.int pdelays4_1)] [(.double (own_j10_0 pdelays4_1 (2 : Int32))), (.int (2 : Int32)), (.ref bndelays4_1), (.ref bndelays4_1)])) _
    refine stodelays4_10 _ ?_
    show Steps p.tables e below (Todelays4_10.setTop (mkF m 115 #[.val (.int (4 : Int32)), .val (.int pdelays4_1)] [(.ref bndelays4_1)])) _
    refine XS.dup Xodelays4_10.here hx rfl (hb hby own_d4_115) rfl rfl ?_
    refine XS.iconst Xodelays4_10.here hx rfl (hb hby own_d4_116) ?_
    refine XS.iloadN Xodelays4_10.here hx rfl (hb hby own_d4_117) rfl ?_
    refine XS.iconst Xodelays4_10.here hx rfl (hb hby own_d4_118) ?_
    refine stkdelays4_12 _ ?_
    show Steps p.tables e below (Tkdelays4_12.setTop (mkF m 122 #[.val (.int (4 : Int32)), .val (.int pdelays4_1)] [(.double (own_j10_0 pdelays4_1 (3 : Int32))), (.int (3 : Int32)), (.ref bndelays4_1), (.ref bndelays4_1)])) _
    refine stodelays4_13 _ ?_
    show Steps p.tables e below (Todelays4_13.setTop (mkF m 123 #[.val (.int (4 : Int32)), .val (.int pdelays4_1)] [(.ref bndelays4_1)])) _
    jvm_step Xodelays4_13.here [Xodelays4_13.here.top, hx, (hb hby own_d4_123), Xodelays4_13.method', Bd.returns, Value.isRef, FieldType.isReference]
    first | (intro acts; rw [hr _ acts rfl rfl rfl]) | rw [hr _ _ rfl rfl rfl]
    exact Steps.refl _
  · show own_Qdelays4 Z pdelays4_1 h0 n0 _ Todelays4_13.heap _
    rw [eodelays4_13]
    exact ⟨bndelays4_1, kndelays4_1, rfl, Nfodelays4_13, ((((((Keep.refl h0 []).ext Endelays4_1).wr Wodelays4_4 (Or.inr sz_bndelays4_1)).wr Wodelays4_7 (Or.inr sz_bndelays4_1)).wr Wodelays4_10 (Or.inr sz_bndelays4_1)).wr Wodelays4_13 (Or.inr sz_bndelays4_1)), sz_bndelays4_1, Vwodelays4_13⟩
theorem own_d4_124 : decode method_7_code 124 = .ok (.iload_n 0, 1) := by decide +kernel
theorem own_d4_125 : decode method_7_code 125 = .ok (.iconst 5, 1) := by decide +kernel
theorem own_d4_126 : decode method_7_code 126 = .ok (.if_icmp .ne 47, 3) := by decide +kernel
theorem own_d4_129 : decode method_7_code 129 = .ok (.iconst 5, 1) := by decide +kernel
theorem own_d4_130 : decode method_7_code 130 = .ok (.newarray .double, 2) := by decide +kernel
theorem own_d4_132 : decode method_7_code 132 = .ok (.dup, 1) := by decide +kernel
theorem own_d4_133 : decode method_7_code 133 = .ok (.iconst 0, 1) := by decide +kernel
theorem own_d4_134 : decode method_7_code 134 = .ok (.iload_n 1, 1) := by decide +kernel
theorem own_d4_135 : decode method_7_code 135 = .ok (.iconst 0, 1) := by decide +kernel
theorem own_d4_136 : decode method_7_code 136 = .ok (.invokestatic 19, 3) := by decide +kernel
theorem own_d4_139 : decode method_7_code 139 = .ok (.dastore, 1) := by decide +kernel
theorem own_d4_140 : decode method_7_code 140 = .ok (.dup, 1) := by decide +kernel
theorem own_d4_141 : decode method_7_code 141 = .ok (.iconst 1, 1) := by decide +kernel
theorem own_d4_142 : decode method_7_code 142 = .ok (.iload_n 1, 1) := by decide +kernel
theorem own_d4_143 : decode method_7_code 143 = .ok (.iconst 1, 1) := by decide +kernel
theorem own_d4_144 : decode method_7_code 144 = .ok (.invokestatic 19, 3) := by decide +kernel
theorem own_d4_147 : decode method_7_code 147 = .ok (.dastore, 1) := by decide +kernel
theorem own_d4_148 : decode method_7_code 148 = .ok (.dup, 1) := by decide +kernel
theorem own_d4_149 : decode method_7_code 149 = .ok (.iconst 2, 1) := by decide +kernel
theorem own_d4_150 : decode method_7_code 150 = .ok (.iload_n 1, 1) := by decide +kernel
theorem own_d4_151 : decode method_7_code 151 = .ok (.iconst 2, 1) := by decide +kernel
theorem own_d4_152 : decode method_7_code 152 = .ok (.invokestatic 19, 3) := by decide +kernel
theorem own_d4_155 : decode method_7_code 155 = .ok (.dastore, 1) := by decide +kernel
theorem own_d4_156 : decode method_7_code 156 = .ok (.dup, 1) := by decide +kernel
theorem own_d4_157 : decode method_7_code 157 = .ok (.iconst 3, 1) := by decide +kernel
theorem own_d4_158 : decode method_7_code 158 = .ok (.iload_n 1, 1) := by decide +kernel
theorem own_d4_159 : decode method_7_code 159 = .ok (.iconst 3, 1) := by decide +kernel
theorem own_d4_160 : decode method_7_code 160 = .ok (.invokestatic 19, 3) := by decide +kernel
theorem own_d4_163 : decode method_7_code 163 = .ok (.dastore, 1) := by decide +kernel
theorem own_d4_164 : decode method_7_code 164 = .ok (.dup, 1) := by decide +kernel
theorem own_d4_165 : decode method_7_code 165 = .ok (.iconst 4, 1) := by decide +kernel
theorem own_d4_166 : decode method_7_code 166 = .ok (.iload_n 1, 1) := by decide +kernel
theorem own_d4_167 : decode method_7_code 167 = .ok (.iconst 4, 1) := by decide +kernel
theorem own_d4_168 : decode method_7_code 168 = .ok (.invokestatic 19, 3) := by decide +kernel
theorem own_d4_171 : decode method_7_code 171 = .ok (.dastore, 1) := by decide +kernel
theorem own_d4_172 : decode method_7_code 172 = .ok (.areturn, 1) := by decide +kernel
def own_vdelays5_0 (pdelays5_1 : Int32) : UInt64 := (own_j10_0 pdelays5_1 (0 : Int32))
def own_vdelays5_1 (pdelays5_1 : Int32) : UInt64 := (own_j10_0 pdelays5_1 (1 : Int32))
def own_vdelays5_2 (pdelays5_1 : Int32) : UInt64 := (own_j10_0 pdelays5_1 (2 : Int32))
def own_vdelays5_3 (pdelays5_1 : Int32) : UInt64 := (own_j10_0 pdelays5_1 (3 : Int32))
def own_vdelays5_4 (pdelays5_1 : Int32) : UInt64 := (own_j10_0 pdelays5_1 (4 : Int32))
theorem own_efdelays5 (m : MethodId) (pdelays5_1 : Int32) : entryFrame m #[(.int (5 : Int32)), (.int pdelays5_1)] 2 = mkF m 0 #[.val (.int (5 : Int32)), .val (.int pdelays5_1)] [] := by first | (simp [entryFrame, mkF, argsToLocals, Value.category]; done) | rfl
def own_Qdelays5 (Z : State) (pdelays5_1 : Int32) (h0 : Heap) (n0 : Nat) (v : Option Value) (h : Heap) (L : List Loc) : Prop := ∃ (bndelays5_1 : Addr) (kndelays5_1 : ClassId), v = some (.ref bndelays5_1) ∧ Fr n0 L ∧ Keep h0 h [] ∧ h0.size ≤ bndelays5_1 ∧ Arv Z h bndelays5_1 kndelays5_1 .double (5 : Int32) [(.double (own_vdelays5_0 pdelays5_1)), (.double (own_vdelays5_1 pdelays5_1)), (.double (own_vdelays5_2 pdelays5_1)), (.double (own_vdelays5_3 pdelays5_1)), (.double (own_vdelays5_4 pdelays5_1))] (.double (0 : UInt64))
set_option maxRecDepth 65536 in
set_option maxHeartbeats 40000000 in
theorem own_rmdelays5 (l : Launch) (Z : State) (a0 : Array Value) (hw : ∀ d ∈ tables_1, d.before a0 Z = true) (ws : List Jvm.Cond) (pdelays5_1 : Int32) (h0 : Heap) (n0 : Nat) (Z0 : n0 ≤ h0.size) :
    MetFree l (⟨"com/example/arborway/arborway/sim/WalkRunningCountPinLaw", "delays", "(II)[D"⟩ : MethodName) (head1 (Jvm.Cond.code (⟨"com/example/arborway/arborway/sim/WalkRunningCountPinLaw", "delays", "(II)[D"⟩ : MethodName) method_7_code 2 (some (.array .double)) :: ws) ({ frames := 2, cells := 1, slots := 5, locals := 29 } : Room)) (fun a U => a = #[(.int (5 : Int32)), (.int pdelays5_1)] ∧ Z.Warmed39 U.vm ∧ U.heap = h0) (fun _ _ _ _ _ => True) (fun _ U o U' => ∃ v L, o = .returned v ∧ own_Qdelays5 Z pdelays5_1 h0 n0 v U'.heap L ∧ FrameEnd U o U' L ({ frames := 2, cells := 1, slots := 5, locals := 29 } : Room).cells ({ frames := 2, cells := 1, slots := 5, locals := 29 } : Room).slots) := by
  refine MetFree.of_bodySF (plainFor_of_name own_pn0) hisR ?_
  intro p e s m args below meth c s₁ Bd hml0 hP hK
  obtain ⟨rfl, hZ, hh⟩ := hP
  have hx := Bd.exec
  have hby := Bd.bytes
  have hml : c.maxLocals = 2 := hml0
  have hown : s.vm.findClass "com/example/arborway/arborway/sim/WalkRunningCountPinLaw" = some m.cls := findClass_of_methodNamed Bd.named
  have hnm := (name_of_methodNamed Bd.named Bd.method).1
  have X0 : Stand p l e ({ frames := 2, cells := 1, slots := 5, locals := 29 } : Room) s m #[(.int (5 : Int32)), (.int pdelays5_1)] below meth c s₁ [] 0 0 := Stand.of_body Bd
  have e0 : s₁.heap = h0 := by rw [← hh, Bd.state]; rfl
  have N0 := Fr.nil n0
  have Zr : h0.size ≤ h0.size := Nat.le_refl _
  have pre0 : ∀ t, Steps p.tables e below (s₁.setTop (mkF m 0 #[.val (.int (5 : Int32)), .val (.int pdelays5_1)] [])) t → Steps p.tables e below (s₁.setTop (entryFrame m #[(.int (5 : Int32)), (.int pdelays5_1)] 2)) t := fun t k => castTop (own_efdelays5 m pdelays5_1) k
  obtain ⟨Tndelays5_1, hndelays5_1, kndelays5_1, Xndelays5_1, endelays5_1, Endelays5_1, Andelays5_1, stndelays5_1⟩ := newP X0 hx hZ (own_W hw 16 rfl) e0 (g := (mkF m 130 #[.val (.int (5 : Int32)), .val (.int pdelays5_1)] [(.int (5 : Int32))])) rfl (hb hby own_d4_130) rfl (by decide) (cap := 5) (by decide) (by decide) (by decide) (by decide)
  obtain ⟨bndelays5_1, gndelays5_1⟩ : ∃ z, z = h0.size := ⟨_, rfl⟩
  rw [← gndelays5_1] at Andelays5_1 stndelays5_1
  have g_bndelays5_1 : n0 ≤ bndelays5_1 := Nat.le_trans Z0 (Nat.le_of_eq gndelays5_1.symm)
  have sz_bndelays5_1 : h0.size ≤ bndelays5_1 := Nat.le_trans Zr (Nat.le_of_eq gndelays5_1.symm)
  have szdelays5_2 : h0.size ≤ hndelays5_1.size := Nat.le_trans Zr Endelays5_1.1
  have V_bndelays5_1 : Arv Z hndelays5_1 bndelays5_1 kndelays5_1 .double (5 : Int32) [(.double (0 : UInt64)), (.double (0 : UInt64)), (.double (0 : UInt64)), (.double (0 : UInt64)), (.double (0 : UInt64))] (.double (0 : UInt64)) := (Arv.new Andelays5_1 (by decide)).pad (pad_rep [] (.double (0 : UInt64)) 5)
  obtain ⟨_, _, ⟨Tkdelays5_3, Lkdelays5_3, kkdelays5_3, nkdelays5_3⟩, -, Xkdelays5_3, ⟨Lckdelays5_3, hQkdelays5_3, lkdelays5_3, ykdelays5_3, zkdelays5_3⟩, stkdelays5_3⟩ := Jvm.LawKit.callS Xndelays5_1 hx (y := (⟨"com/example/arborway/arborway/sim/WalkRunningCountPinLaw", "del", "(II)D"⟩ : MethodName)) hown (mvT hZ (own_W hw 47 rfl)) (mvT hZ (own_W hw 48 rfl)) (mvT hZ (own_W hw 3 rfl)) (mvT hZ (own_W hw 49 rfl)) (by decide) (backOf (W := 3) (own_rm10 l Z a0 hw [] pdelays5_1 (0 : Int32) hndelays5_1 n0 (Nat.le_trans Z0 szdelays5_2)) hZ (own_W hw 49 rfl) (own_W hw 3 rfl) (by decide) (by decide)) (g := (mkF m 136 #[.val (.int (5 : Int32)), .val (.int pdelays5_1)] [(.int (0 : Int32)), (.int pdelays5_1), (.int (0 : Int32)), (.ref bndelays5_1), (.ref bndelays5_1)])) rfl (by rw [hml]; rfl) (argsL := [(.int pdelays5_1), (.int (0 : Int32))]) (rest := [(.int (0 : Int32)), (.ref bndelays5_1), (.ref bndelays5_1)]) (lenOf own_pd3 rfl) rfl (by show 2 * 0 + _ ≤ _; exact Nat.le_of_eq rfl) (hb hby own_d4_136) (fun _ _ => ⟨rfl, endelays5_1, (by decide : 1 + 0 ≤ _), (by decide : 5 + 0 ≤ _)⟩)
  dsimp only [Pt.U, Pt.locs, Pt.cells, Pt.slots] at Xkdelays5_3 lkdelays5_3 ykdelays5_3 zkdelays5_3 stkdelays5_3 hQkdelays5_3
  replace lkdelays5_3 := lkdelays5_3.symm; replace ykdelays5_3 := ykdelays5_3.symm; replace zkdelays5_3 := zkdelays5_3.symm; subst lkdelays5_3 ykdelays5_3 zkdelays5_3
  obtain ⟨rfl, Nkdelays5_3q, ekdelays5_3⟩ := hQkdelays5_3
  have Nkdelays5_3 := Fr.app N0 Nkdelays5_3q
  have Oodelays5_4 := V_bndelays5_1
  obtain ⟨clodelays5_4, Arodelays5_4, qodelays5_4, Sodelays5_4, Nodelays5_4, Hodelays5_4, Godelays5_4⟩ := Oodelays5_4
  have hinodelays5_4 : ¬ ((0 : Int32) < 0 ∨ clodelays5_4.slots.size ≤ ((0 : Int32)).toNatClampNeg) := inb_of Sodelays5_4 ⟨by decide, by decide⟩
  obtain ⟨Todelays5_4, hodelays5_4, Xodelays5_4, eodelays5_4, Wodelays5_4, stodelays5_4⟩ := stD Xkdelays5_3 hx hZ ekdelays5_3 Arodelays5_4 (j := (0 : Int32)) hinodelays5_4 (g := (mkF m 139 #[.val (.int (5 : Int32)), .val (.int pdelays5_1)] [(.double (own_j10_0 pdelays5_1 (0 : Int32))), (.int (0 : Int32)), (.ref bndelays5_1), (.ref bndelays5_1)])) rfl rfl (hb hby own_d4_139)
  have Vwodelays5_4 : Arv Z hodelays5_4 bndelays5_1 kndelays5_1 .double (5 : Int32) [(.double (own_vdelays5_0 pdelays5_1)), (.double (0 : UInt64)), (.double (0 : UInt64)), (.double (0 : UInt64)), (.double (0 : UInt64))] (.double (0 : UInt64)) := Arv.set Arodelays5_4 qodelays5_4 Sodelays5_4 Nodelays5_4 Hodelays5_4 Godelays5_4 rfl Wodelays5_4 0 rfl (Nat.le_of_ble_eq_true rfl)
  have szdelays5_5 : h0.size ≤ hodelays5_4.size := Nat.le_trans szdelays5_2 (Nat.le_of_eq Wodelays5_4.size.symm)
  have Nfodelays5_4 := Fr.snoc Xodelays5_4 Nkdelays5_3 g_bndelays5_1
  obtain ⟨_, _, ⟨Tkdelays5_6, Lkdelays5_6, kkdelays5_6, nkdelays5_6⟩, -, Xkdelays5_6, ⟨Lckdelays5_6, hQkdelays5_6, lkdelays5_6, ykdelays5_6, zkdelays5_6⟩, stkdelays5_6⟩ := Jvm.LawKit.callS Xodelays5_4 hx (y := (⟨"com/example/arborway/arborway/sim/WalkRunningCountPinLaw", "del", "(II)D"⟩ : MethodName)) hown (mvT hZ (own_W hw 47 rfl)) (mvT hZ (own_W hw 48 rfl)) (mvT hZ (own_W hw 3 rfl)) (mvT hZ (own_W hw 49 rfl)) (by decide) (backOf (W := 3) (own_rm10 l Z a0 hw [] pdelays5_1 (1 : Int32) hodelays5_4 n0 (Nat.le_trans Z0 szdelays5_5)) hZ (own_W hw 49 rfl) (own_W hw 3 rfl) (by decide) (by decide)) (g := (mkF m 144 #[.val (.int (5 : Int32)), .val (.int pdelays5_1)] [(.int (1 : Int32)), (.int pdelays5_1), (.int (1 : Int32)), (.ref bndelays5_1), (.ref bndelays5_1)])) rfl (by rw [hml]; rfl) (argsL := [(.int pdelays5_1), (.int (1 : Int32))]) (rest := [(.int (1 : Int32)), (.ref bndelays5_1), (.ref bndelays5_1)]) (lenOf own_pd3 rfl) rfl (by show 2 * 0 + _ ≤ _; exact Nat.le_of_eq rfl) (hb hby own_d4_144) (fun _ _ => ⟨rfl, eodelays5_4, (by decide : 1 + 0 ≤ _), (by decide : 5 + 0 ≤ _)⟩)
  dsimp only [Pt.U, Pt.locs, Pt.cells, Pt.slots] at Xkdelays5_6 lkdelays5_6 ykdelays5_6 zkdelays5_6 stkdelays5_6 hQkdelays5_6
  replace lkdelays5_6 := lkdelays5_6.symm; replace ykdelays5_6 := ykdelays5_6.symm; replace zkdelays5_6 := zkdelays5_6.symm; subst lkdelays5_6 ykdelays5_6 zkdelays5_6
  obtain ⟨rfl, Nkdelays5_6q, ekdelays5_6⟩ := hQkdelays5_6
  have Nkdelays5_6 := Fr.app Nfodelays5_4 Nkdelays5_6q
  have Oodelays5_7 := Vwodelays5_4
  obtain ⟨clodelays5_7, Arodelays5_7, qodelays5_7, Sodelays5_7, Nodelays5_7, Hodelays5_7, Godelays5_7⟩ := Oodelays5_7
  have hinodelays5_7 : ¬ ((1 : Int32) < 0 ∨ clodelays5_7.slots.size ≤ ((1 : Int32)).toNatClampNeg) := inb_of Sodelays5_7 ⟨by decide, by decide⟩
  obtain ⟨Todelays5_7, hodelays5_7, Xodelays5_7, eodelays5_7, Wodelays5_7, stodelays5_7⟩ := stD Xkdelays5_6 hx hZ ekdelays5_6 Arodelays5_7 (j := (1 : Int32)) hinodelays5_7 (g := (mkF m 147 #[.val (.int (5 : Int32)), .val (.int pdelays5_1)] [(.double (own_j10_0 pdelays5_1 (1 : Int32))), (.int (1 : Int32)), (.ref bndelays5_1), (.ref bndelays5_1)])) rfl rfl (hb hby own_d4_147)
  have Vwodelays5_7 : Arv Z hodelays5_7 bndelays5_1 kndelays5_1 .double (5 : Int32) [(.double (own_vdelays5_0 pdelays5_1)), (.double (own_vdelays5_1 pdelays5_1)), (.double (0 : UInt64)), (.double (0 : UInt64)), (.double (0 : UInt64))] (.double (0 : UInt64)) := Arv.set Arodelays5_7 qodelays5_7 Sodelays5_7 Nodelays5_7 Hodelays5_7 Godelays5_7 rfl Wodelays5_7 1 rfl (Nat.le_of_ble_eq_true rfl)
  have szdelays5_8 : h0.size ≤ hodelays5_7.size := Nat.le_trans szdelays5_5 (Nat.le_of_eq Wodelays5_7.size.symm)
  have Nfodelays5_7 := Fr.snoc Xodelays5_7 Nkdelays5_6 g_bndelays5_1
  obtain ⟨_, _, ⟨Tkdelays5_9, Lkdelays5_9, kkdelays5_9, nkdelays5_9⟩, -, Xkdelays5_9, ⟨Lckdelays5_9, hQkdelays5_9, lkdelays5_9, ykdelays5_9, zkdelays5_9⟩, stkdelays5_9⟩ := Jvm.LawKit.callS Xodelays5_7 hx (y := (⟨"com/example/arborway/arborway/sim/WalkRunningCountPinLaw", "del", "(II)D"⟩ : MethodName)) hown (mvT hZ (own_W hw 47 rfl)) (mvT hZ (own_W hw 48 rfl)) (mvT hZ (own_W hw 3 rfl)) (mvT hZ (own_W hw 49 rfl)) (by decide) (backOf (W := 3) (own_rm10 l Z a0 hw [] pdelays5_1 (2 : Int32) hodelays5_7 n0 (Nat.le_trans Z0 szdelays5_8)) hZ (own_W hw 49 rfl) (own_W hw 3 rfl) (by decide) (by decide)) (g := (mkF m 152 #[.val (.int (5 : Int32)), .val (.int pdelays5_1)] [(.int (2 : Int32)), (.int pdelays5_1), (.int (2 : Int32)), (.ref bndelays5_1), (.ref bndelays5_1)])) rfl (by rw [hml]; rfl) (argsL := [(.int pdelays5_1), (.int (2 : Int32))]) (rest := [(.int (2 : Int32)), (.ref bndelays5_1), (.ref bndelays5_1)]) (lenOf own_pd3 rfl) rfl (by show 2 * 0 + _ ≤ _; exact Nat.le_of_eq rfl) (hb hby own_d4_152) (fun _ _ => ⟨rfl, eodelays5_7, (by decide : 1 + 0 ≤ _), (by decide : 5 + 0 ≤ _)⟩)
  dsimp only [Pt.U, Pt.locs, Pt.cells, Pt.slots] at Xkdelays5_9 lkdelays5_9 ykdelays5_9 zkdelays5_9 stkdelays5_9 hQkdelays5_9
  replace lkdelays5_9 := lkdelays5_9.symm; replace ykdelays5_9 := ykdelays5_9.symm; replace zkdelays5_9 := zkdelays5_9.symm; subst lkdelays5_9 ykdelays5_9 zkdelays5_9
  obtain ⟨rfl, Nkdelays5_9q, ekdelays5_9⟩ := hQkdelays5_9
  have Nkdelays5_9 := Fr.app Nfodelays5_7 Nkdelays5_9q
  have Oodelays5_10 := Vwodelays5_7
  obtain ⟨clodelays5_10, Arodelays5_10, qodelays5_10, Sodelays5_10, Nodelays5_10, Hodelays5_10, Godelays5_10⟩ := Oodelays5_10
  have hinodelays5_10 : ¬ ((2 : Int32) < 0 ∨ clodelays5_10.slots.size ≤ ((2 : Int32)).toNatClampNeg) := inb_of Sodelays5_10 ⟨by decide, by decide⟩
  obtain ⟨Todelays5_10, hodelays5_10, Xodelays5_10, eodelays5_10, Wodelays5_10, stodelays5_10⟩ := stD Xkdelays5_9 hx hZ ekdelays5_9 Arodelays5_10 (j := (2 : Int32)) hinodelays5_10 (g := (mkF m 155 #[.val (.int (5 : Int32)), .val (.int pdelays5_1)] [(.double (own_j10_0 pdelays5_1 (2 : Int32))), (.int (2 : Int32)), (.ref bndelays5_1), (.ref bndelays5_1)])) rfl rfl (hb hby own_d4_155)
  have Vwodelays5_10 : Arv Z hodelays5_10 bndelays5_1 kndelays5_1 .double (5 : Int32) [(.double (own_vdelays5_0 pdelays5_1)), (.double (own_vdelays5_1 pdelays5_1)), (.double (own_vdelays5_2 pdelays5_1)), (.double (0 : UInt64)), (.double (0 : UInt64))] (.double (0 : UInt64)) := Arv.set Arodelays5_10 qodelays5_10 Sodelays5_10 Nodelays5_10 Hodelays5_10 Godelays5_10 rfl Wodelays5_10 2 rfl (Nat.le_of_ble_eq_true rfl)
  have szdelays5_11 : h0.size ≤ hodelays5_10.size := Nat.le_trans szdelays5_8 (Nat.le_of_eq Wodelays5_10.size.symm)
  have Nfodelays5_10 := Fr.snoc Xodelays5_10 Nkdelays5_9 g_bndelays5_1
  obtain ⟨_, _, ⟨Tkdelays5_12, Lkdelays5_12, kkdelays5_12, nkdelays5_12⟩, -, Xkdelays5_12, ⟨Lckdelays5_12, hQkdelays5_12, lkdelays5_12, ykdelays5_12, zkdelays5_12⟩, stkdelays5_12⟩ := Jvm.LawKit.callS Xodelays5_10 hx (y := (⟨"com/example/arborway/arborway/sim/WalkRunningCountPinLaw", "del", "(II)D"⟩ : MethodName)) hown (mvT hZ (own_W hw 47 rfl)) (mvT hZ (own_W hw 48 rfl)) (mvT hZ (own_W hw 3 rfl)) (mvT hZ (own_W hw 49 rfl)) (by decide) (backOf (W := 3) (own_rm10 l Z a0 hw [] pdelays5_1 (3 : Int32) hodelays5_10 n0 (Nat.le_trans Z0 szdelays5_11)) hZ (own_W hw 49 rfl) (own_W hw 3 rfl) (by decide) (by decide)) (g := (mkF m 160 #[.val (.int (5 : Int32)), .val (.int pdelays5_1)] [(.int (3 : Int32)), (.int pdelays5_1), (.int (3 : Int32)), (.ref bndelays5_1), (.ref bndelays5_1)])) rfl (by rw [hml]; rfl) (argsL := [(.int pdelays5_1), (.int (3 : Int32))]) (rest := [(.int (3 : Int32)), (.ref bndelays5_1), (.ref bndelays5_1)]) (lenOf own_pd3 rfl) rfl (by show 2 * 0 + _ ≤ _; exact Nat.le_of_eq rfl) (hb hby own_d4_160) (fun _ _ => ⟨rfl, eodelays5_10, (by decide : 1 + 0 ≤ _), (by decide : 5 + 0 ≤ _)⟩)
  dsimp only [Pt.U, Pt.locs, Pt.cells, Pt.slots] at Xkdelays5_12 lkdelays5_12 ykdelays5_12 zkdelays5_12 stkdelays5_12 hQkdelays5_12
  replace lkdelays5_12 := lkdelays5_12.symm; replace ykdelays5_12 := ykdelays5_12.symm; replace zkdelays5_12 := zkdelays5_12.symm; subst lkdelays5_12 ykdelays5_12 zkdelays5_12
  obtain ⟨rfl, Nkdelays5_12q, ekdelays5_12⟩ := hQkdelays5_12
  have Nkdelays5_12 := Fr.app Nfodelays5_10 Nkdelays5_12q
  have Oodelays5_13 := Vwodelays5_10
  obtain ⟨clodelays5_13, Arodelays5_13, qodelays5_13, Sodelays5_13, Nodelays5_13, Hodelays5_13, Godelays5_13⟩ := Oodelays5_13
  have hinodelays5_13 : ¬ ((3 : Int32) < 0 ∨ clodelays5_13.slots.size ≤ ((3 : Int32)).toNatClampNeg) := inb_of Sodelays5_13 ⟨by decide, by decide⟩
  obtain ⟨Todelays5_13, hodelays5_13, Xodelays5_13, eodelays5_13, Wodelays5_13, stodelays5_13⟩ := stD Xkdelays5_12 hx hZ ekdelays5_12 Arodelays5_13 (j := (3 : Int32)) hinodelays5_13 (g := (mkF m 163 #[.val (.int (5 : Int32)), .val (.int pdelays5_1)] [(.double (own_j10_0 pdelays5_1 (3 : Int32))), (.int (3 : Int32)), (.ref bndelays5_1), (.ref bndelays5_1)])) rfl rfl (hb hby own_d4_163)
  have Vwodelays5_13 : Arv Z hodelays5_13 bndelays5_1 kndelays5_1 .double (5 : Int32) [(.double (own_vdelays5_0 pdelays5_1)), (.double (own_vdelays5_1 pdelays5_1)), (.double (own_vdelays5_2 pdelays5_1)), (.double (own_vdelays5_3 pdelays5_1)), (.double (0 : UInt64))] (.double (0 : UInt64)) := Arv.set Arodelays5_13 qodelays5_13 Sodelays5_13 Nodelays5_13 Hodelays5_13 Godelays5_13 rfl Wodelays5_13 3 rfl (Nat.le_of_ble_eq_true rfl)
  have szdelays5_14 : h0.size ≤ hodelays5_13.size := Nat.le_trans szdelays5_11 (Nat.le_of_eq Wodelays5_13.size.symm)
  have Nfodelays5_13 := Fr.snoc Xodelays5_13 Nkdelays5_12 g_bndelays5_1
  obtain ⟨_, _, ⟨Tkdelays5_15, Lkdelays5_15, kkdelays5_15, nkdelays5_15⟩, -, Xkdelays5_15, ⟨Lckdelays5_15, hQkdelays5_15, lkdelays5_15, ykdelays5_15, zkdelays5_15⟩, stkdelays5_15⟩ := Jvm.LawKit.callS Xodelays5_13 hx (y := (⟨"com/example/arborway/arborway/sim/WalkRunningCountPinLaw", "del", "(II)D"⟩ : MethodName)) hown (mvT hZ (own_W hw 47 rfl)) (mvT hZ (own_W hw 48 rfl)) (mvT hZ (own_W hw 3 rfl)) (mvT hZ (own_W hw 49 rfl)) (by decide) (backOf (W := 3) (own_rm10 l Z a0 hw [] pdelays5_1 (4 : Int32) hodelays5_13 n0 (Nat.le_trans Z0 szdelays5_14)) hZ (own_W hw 49 rfl) (own_W hw 3 rfl) (by decide) (by decide)) (g := (mkF m 168 #[.val (.int (5 : Int32)), .val (.int pdelays5_1)] [(.int (4 : Int32)), (.int pdelays5_1), (.int (4 : Int32)), (.ref bndelays5_1), (.ref bndelays5_1)])) rfl (by rw [hml]; rfl) (argsL := [(.int pdelays5_1), (.int (4 : Int32))]) (rest := [(.int (4 : Int32)), (.ref bndelays5_1), (.ref bndelays5_1)]) (lenOf own_pd3 rfl) rfl (by show 2 * 0 + _ ≤ _; exact Nat.le_of_eq rfl) (hb hby own_d4_168) (fun _ _ => ⟨rfl, eodelays5_13, (by decide : 1 + 0 ≤ _), (by decide : 5 + 0 ≤ _)⟩)
  dsimp only [Pt.U, Pt.locs, Pt.cells, Pt.slots] at Xkdelays5_15 lkdelays5_15 ykdelays5_15 zkdelays5_15 stkdelays5_15 hQkdelays5_15
  replace lkdelays5_15 := lkdelays5_15.symm; replace ykdelays5_15 := ykdelays5_15.symm; replace zkdelays5_15 := zkdelays5_15.symm; subst lkdelays5_15 ykdelays5_15 zkdelays5_15
  obtain ⟨rfl, Nkdelays5_15q, ekdelays5_15⟩ := hQkdelays5_15
  have Nkdelays5_15 := Fr.app Nfodelays5_13 Nkdelays5_15q
  have Oodelays5_16 := Vwodelays5_13
  obtain ⟨clodelays5_16, Arodelays5_16, qodelays5_16, Sodelays5_16, Nodelays5_16, Hodelays5_16, Godelays5_16⟩ := Oodelays5_16
  have hinodelays5_16 : ¬ ((4 : Int32) < 0 ∨ clodelays5_16.slots.size ≤ ((4 : Int32)).toNatClampNeg) := inb_of Sodelays5_16 ⟨by decide, by decide⟩
  obtain ⟨Todelays5_16, hodelays5_16, Xodelays5_16, eodelays5_16, Wodelays5_16, stodelays5_16⟩ := stD Xkdelays5_15 hx hZ ekdelays5_15 Arodelays5_16 (j := (4 : Int32)) hinodelays5_16 (g := (mkF m 171 #[.val (.int (5 : Int32)), .val (.int pdelays5_1)] [(.double (own_j10_0 pdelays5_1 (4 : Int32))), (.int (4 : Int32)), (.ref bndelays5_1), (.ref bndelays5_1)])) rfl rfl (hb hby own_d4_171)
  have Vwodelays5_16 : Arv Z hodelays5_16 bndelays5_1 kndelays5_1 .double (5 : Int32) [(.double (own_vdelays5_0 pdelays5_1)), (.double (own_vdelays5_1 pdelays5_1)), (.double (own_vdelays5_2 pdelays5_1)), (.double (own_vdelays5_3 pdelays5_1)), (.double (own_vdelays5_4 pdelays5_1))] (.double (0 : UInt64)) := Arv.set Arodelays5_16 qodelays5_16 Sodelays5_16 Nodelays5_16 Hodelays5_16 Godelays5_16 rfl Wodelays5_16 4 rfl (Nat.le_of_ble_eq_true rfl)
  have szdelays5_17 : h0.size ≤ hodelays5_16.size := Nat.le_trans szdelays5_14 (Nat.le_of_eq Wodelays5_16.size.symm)
  have Nfodelays5_16 := Fr.snoc Xodelays5_16 Nkdelays5_15 g_bndelays5_1
  obtain ⟨fs, hr, hrun, hended, hW, hsame⟩ := Xodelays5_16.leave (v := some (.ref bndelays5_1)) (fun h => by rw [Bd.returns] at h; cases h)
  refine ⟨_, _, pre0 _ (?_), hrun, hended, _, _, rfl, ?_, ⟨_, rfl⟩, hW, hsame.mono (by decide) (by decide)⟩
  · show Steps p.tables e below (s₁.setTop (mkF m 0 #[.val (.int (5 : Int32)), .val (.int pdelays5_1)] [])) _
    refine XS.iloadN X0.here hx rfl (hb hby own_d4_0) rfl ?_
    refine XS.ifYes X0.here hx rfl (pc0 := 1) (pc' := 8) rfl (hb hby own_d4_1) rfl (XT.i0_ne_t (by decide : ¬ ((5 : Int32) = (0 : Int32)))) (by decide) (by decide) ?_
    refine XS.iloadN X0.here hx rfl (hb hby own_d4_8) rfl ?_
    refine XS.iconst X0.here hx rfl (hb hby own_d4_9) ?_
    refine XS.icmpYes X0.here hx rfl (pc0 := 10) (pc' := 25) rfl (hb hby own_d4_10) rfl (XT.ii_ne_t (by decide : ¬ ((5 : Int32) = (1 : Int32)))) (by decide) (by decide) ?_
    refine XS.iloadN X0.here hx rfl (hb hby own_d4_25) rfl ?_
    refine XS.iconst X0.here hx rfl (hb hby own_d4_26) ?_
    refine XS.icmpYes X0.here hx rfl (pc0 := 27) (pc' := 50) rfl (hb hby own_d4_27) rfl (XT.ii_ne_t (by decide : ¬ ((5 : Int32) = (2 : Int32)))) (by decide) (by decide) ?_
    refine XS.iloadN X0.here hx rfl (hb hby own_d4_50) rfl ?_
    refine XS.iconst X0.here hx rfl (hb hby own_d4_51) ?_
    refine XS.icmpYes X0.here hx rfl (pc0 := 52) (pc' := 83) rfl (hb hby own_d4_52) rfl (XT.ii_ne_t (by decide : ¬ ((5 : Int32) = (3 : Int32)))) (by decide) (by decide) ?_
    refine XS.iloadN X0.here hx rfl (hb hby own_d4_83) rfl ?_
    refine XS.iconst X0.here hx rfl (hb hby own_d4_84) ?_
    refine XS.icmpYes X0.here hx rfl (pc0 := 85) (pc' := 124) rfl (hb hby own_d4_85) rfl (XT.ii_ne_t (by decide : ¬ ((5 : Int32) = (4 : Int32)))) (by decide) (by decide) ?_
    refine XS.iloadN X0.here hx rfl (hb hby own_d4_124) rfl ?_
    refine XS.iconst X0.here hx rfl (hb hby own_d4_125) ?_
    refine XS.icmpNo X0.here hx rfl (hb hby own_d4_126) rfl (XT.ii_ne_f (by decide : (5 : Int32) = (5 : Int32))) ?_
    refine XS.iconst X0.here hx rfl (hb hby own_d4_129) ?_
    refine stndelays5_1 _ ?_
    show Steps p.tables e below (Tndelays5_1.setTop (mkF m 132 #[.val (.int (5 : Int32)), .val (.int pdelays5_1)] [(.ref bndelays5_1)])) _
    refine XS.dup Xndelays5_1.here hx rfl (hb hby own_d4_132) rfl rfl ?_
    refine XS.iconst Xndelays5_1.here hx rfl (hb hby own_d4_133) ?_
    refine XS.iloadN Xndelays5_1.here hx rfl (hb hby own_d4_134) rfl ?_
    refine XS.iconst Xndelays5_1.here hx rfl (hb hby own_d4_135) ?_
    refine stkdelays5_3 _ ?_
    show Steps p.tables e below (Tkdelays5_3.setTop (mkF m 139 #[.val (.int (5 : Int32)), .val (.int pdelays5_1)] [(.double (own_j10_0 pdelays5_1 (0 : Int32))), (.int (0 : Int32)), (.ref bndelays5_1), (.ref bndelays5_1)])) _
    refine stodelays5_4 _ ?_
    show Steps p.tables e below (Todelays5_4.setTop (mkF m 140 #[.val (.int (5 : Int32)), .val (.int pdelays5_1)] [(.ref bndelays5_1)])) _
    refine XS.dup Xodelays5_4.here hx rfl (hb hby own_d4_140) rfl rfl ?_
    refine XS.iconst Xodelays5_4.here hx rfl (hb hby own_d4_141) ?_
    refine XS.iloadN Xodelays5_4.here hx rfl (hb hby own_d4_142) rfl ?_
    refine XS.iconst Xodelays5_4.here hx rfl (hb hby own_d4_143) ?_
    refine stkdelays5_6 _ ?_
    show Steps p.tables e below (Tkdelays5_6.setTop (mkF m 147 #[.val (.int (5 : Int32)), .val (.int pdelays5_1)] [(.double (own_j10_0 pdelays5_1 (1 : Int32))), (.int (1 : Int32)), (.ref bndelays5_1), (.ref bndelays5_1)])) _
    refine stodelays5_7 _ ?_
    show Steps p.tables e below (Todelays5_7.setTop (mkF m 148 #[.val (.int (5 : Int32)), .val (.int pdelays5_1)] [(.ref bndelays5_1)])) _
    refine XS.dup Xodelays5_7.here hx rfl (hb hby own_d4_148) rfl rfl ?_
    refine XS.iconst Xodelays5_7.here hx rfl (hb hby own_d4_149) ?_
    refine XS.iloadN Xodelays5_7.here hx rfl (hb hby own_d4_150) rfl ?_
    refine XS.iconst Xodelays5_7.here hx rfl (hb hby own_d4_151) ?_
    refine stkdelays5_9 _ ?_
    show Steps p.tables e below (Tkdelays5_9.setTop (mkF m 155 #[.val (.int (5 : Int32)), .val (.int pdelays5_1)] [(.double (own_j10_0 pdelays5_1 (2 : Int32))), (.int (2 : Int32)), (.ref bndelays5_1), (.ref bndelays5_1)])) _
    refine stodelays5_10 _ ?_
    show Steps p.tables e below (Todelays5_10.setTop (mkF m 156 #[.val (.int (5 : Int32)), .val (.int pdelays5_1)] [(.ref bndelays5_1)])) _
    refine XS.dup Xodelays5_10.here hx rfl (hb hby own_d4_156) rfl rfl ?_
    refine XS.iconst Xodelays5_10.here hx rfl (hb hby own_d4_157) ?_
    refine XS.iloadN Xodelays5_10.here hx rfl (hb hby own_d4_158) rfl ?_
    refine XS.iconst Xodelays5_10.here hx rfl (hb hby own_d4_159) ?_
    refine stkdelays5_12 _ ?_
    show Steps p.tables e below (Tkdelays5_12.setTop (mkF m 163 #[.val (.int (5 : Int32)), .val (.int pdelays5_1)] [(.double (own_j10_0 pdelays5_1 (3 : Int32))), (.int (3 : Int32)), (.ref bndelays5_1), (.ref bndelays5_1)])) _
    refine stodelays5_13 _ ?_
    show Steps p.tables e below (Todelays5_13.setTop (mkF m 164 #[.val (.int (5 : Int32)), .val (.int pdelays5_1)] [(.ref bndelays5_1)])) _
    refine XS.dup Xodelays5_13.here hx rfl (hb hby own_d4_164) rfl rfl ?_
    refine XS.iconst Xodelays5_13.here hx rfl (hb hby own_d4_165) ?_
    refine XS.iloadN Xodelays5_13.here hx rfl (hb hby own_d4_166) rfl ?_
    refine XS.iconst Xodelays5_13.here hx rfl (hb hby own_d4_167) ?_
    refine stkdelays5_15 _ ?_
    show Steps p.tables e below (Tkdelays5_15.setTop (mkF m 171 #[.val (.int (5 : Int32)), .val (.int pdelays5_1)] [(.double (own_j10_0 pdelays5_1 (4 : Int32))), (.int (4 : Int32)), (.ref bndelays5_1), (.ref bndelays5_1)])) _
    refine stodelays5_16 _ ?_
    show Steps p.tables e below (Todelays5_16.setTop (mkF m 172 #[.val (.int (5 : Int32)), .val (.int pdelays5_1)] [(.ref bndelays5_1)])) _
    jvm_step Xodelays5_16.here [Xodelays5_16.here.top, hx, (hb hby own_d4_172), Xodelays5_16.method', Bd.returns, Value.isRef, FieldType.isReference]
    first | (intro acts; rw [hr _ acts rfl rfl rfl]) | rw [hr _ _ rfl rfl rfl]
    exact Steps.refl _
  · show own_Qdelays5 Z pdelays5_1 h0 n0 _ Todelays5_16.heap _
    rw [eodelays5_16]
    exact ⟨bndelays5_1, kndelays5_1, rfl, Nfodelays5_16, (((((((Keep.refl h0 []).ext Endelays5_1).wr Wodelays5_4 (Or.inr sz_bndelays5_1)).wr Wodelays5_7 (Or.inr sz_bndelays5_1)).wr Wodelays5_10 (Or.inr sz_bndelays5_1)).wr Wodelays5_13 (Or.inr sz_bndelays5_1)).wr Wodelays5_16 (Or.inr sz_bndelays5_1)), sz_bndelays5_1, Vwodelays5_16⟩
theorem own_d4_173 : decode method_7_code 173 = .ok (.bipush 6, 2) := by decide +kernel
theorem own_d4_175 : decode method_7_code 175 = .ok (.newarray .double, 2) := by decide +kernel
theorem own_d4_177 : decode method_7_code 177 = .ok (.dup, 1) := by decide +kernel
theorem own_d4_178 : decode method_7_code 178 = .ok (.iconst 0, 1) := by decide +kernel
theorem own_d4_179 : decode method_7_code 179 = .ok (.iload_n 1, 1) := by decide +kernel
theorem own_d4_180 : decode method_7_code 180 = .ok (.iconst 0, 1) := by decide +kernel
theorem own_d4_181 : decode method_7_code 181 = .ok (.invokestatic 19, 3) := by decide +kernel
theorem own_d4_184 : decode method_7_code 184 = .ok (.dastore, 1) := by decide +kernel
theorem own_d4_185 : decode method_7_code 185 = .ok (.dup, 1) := by decide +kernel
theorem own_d4_186 : decode method_7_code 186 = .ok (.iconst 1, 1) := by decide +kernel
theorem own_d4_187 : decode method_7_code 187 = .ok (.iload_n 1, 1) := by decide +kernel
theorem own_d4_188 : decode method_7_code 188 = .ok (.iconst 1, 1) := by decide +kernel
theorem own_d4_189 : decode method_7_code 189 = .ok (.invokestatic 19, 3) := by decide +kernel
theorem own_d4_192 : decode method_7_code 192 = .ok (.dastore, 1) := by decide +kernel
theorem own_d4_193 : decode method_7_code 193 = .ok (.dup, 1) := by decide +kernel
theorem own_d4_194 : decode method_7_code 194 = .ok (.iconst 2, 1) := by decide +kernel
theorem own_d4_195 : decode method_7_code 195 = .ok (.iload_n 1, 1) := by decide +kernel
theorem own_d4_196 : decode method_7_code 196 = .ok (.iconst 2, 1) := by decide +kernel
theorem own_d4_197 : decode method_7_code 197 = .ok (.invokestatic 19, 3) := by decide +kernel
theorem own_d4_200 : decode method_7_code 200 = .ok (.dastore, 1) := by decide +kernel
theorem own_d4_201 : decode method_7_code 201 = .ok (.dup, 1) := by decide +kernel
theorem own_d4_202 : decode method_7_code 202 = .ok (.iconst 3, 1) := by decide +kernel
theorem own_d4_203 : decode method_7_code 203 = .ok (.iload_n 1, 1) := by decide +kernel
theorem own_d4_204 : decode method_7_code 204 = .ok (.iconst 3, 1) := by decide +kernel
theorem own_d4_205 : decode method_7_code 205 = .ok (.invokestatic 19, 3) := by decide +kernel
theorem own_d4_208 : decode method_7_code 208 = .ok (.dastore, 1) := by decide +kernel
theorem own_d4_209 : decode method_7_code 209 = .ok (.dup, 1) := by decide +kernel
theorem own_d4_210 : decode method_7_code 210 = .ok (.iconst 4, 1) := by decide +kernel
theorem own_d4_211 : decode method_7_code 211 = .ok (.iload_n 1, 1) := by decide +kernel
theorem own_d4_212 : decode method_7_code 212 = .ok (.iconst 4, 1) := by decide +kernel
theorem own_d4_213 : decode method_7_code 213 = .ok (.invokestatic 19, 3) := by decide +kernel
theorem own_d4_216 : decode method_7_code 216 = .ok (.dastore, 1) := by decide +kernel
theorem own_d4_217 : decode method_7_code 217 = .ok (.dup, 1) := by decide +kernel
theorem own_d4_218 : decode method_7_code 218 = .ok (.iconst 5, 1) := by decide +kernel
theorem own_d4_219 : decode method_7_code 219 = .ok (.iload_n 1, 1) := by decide +kernel
theorem own_d4_220 : decode method_7_code 220 = .ok (.iconst 5, 1) := by decide +kernel
theorem own_d4_221 : decode method_7_code 221 = .ok (.invokestatic 19, 3) := by decide +kernel
theorem own_d4_224 : decode method_7_code 224 = .ok (.dastore, 1) := by decide +kernel
theorem own_d4_225 : decode method_7_code 225 = .ok (.areturn, 1) := by decide +kernel
def own_vdelays6_0 (pdelays6_1 : Int32) : UInt64 := (own_j10_0 pdelays6_1 (0 : Int32))
def own_vdelays6_1 (pdelays6_1 : Int32) : UInt64 := (own_j10_0 pdelays6_1 (1 : Int32))
def own_vdelays6_2 (pdelays6_1 : Int32) : UInt64 := (own_j10_0 pdelays6_1 (2 : Int32))
def own_vdelays6_3 (pdelays6_1 : Int32) : UInt64 := (own_j10_0 pdelays6_1 (3 : Int32))
def own_vdelays6_4 (pdelays6_1 : Int32) : UInt64 := (own_j10_0 pdelays6_1 (4 : Int32))
def own_vdelays6_5 (pdelays6_1 : Int32) : UInt64 := (own_j10_0 pdelays6_1 (5 : Int32))
theorem own_efdelays6 (m : MethodId) (pdelays6_1 : Int32) : entryFrame m #[(.int (6 : Int32)), (.int pdelays6_1)] 2 = mkF m 0 #[.val (.int (6 : Int32)), .val (.int pdelays6_1)] [] := by first | (simp [entryFrame, mkF, argsToLocals, Value.category]; done) | rfl
def own_Qdelays6 (Z : State) (pdelays6_1 : Int32) (h0 : Heap) (n0 : Nat) (v : Option Value) (h : Heap) (L : List Loc) : Prop := ∃ (bndelays6_1 : Addr) (kndelays6_1 : ClassId), v = some (.ref bndelays6_1) ∧ Fr n0 L ∧ Keep h0 h [] ∧ h0.size ≤ bndelays6_1 ∧ Arv Z h bndelays6_1 kndelays6_1 .double (6 : Int32) [(.double (own_vdelays6_0 pdelays6_1)), (.double (own_vdelays6_1 pdelays6_1)), (.double (own_vdelays6_2 pdelays6_1)), (.double (own_vdelays6_3 pdelays6_1)), (.double (own_vdelays6_4 pdelays6_1)), (.double (own_vdelays6_5 pdelays6_1))] (.double (0 : UInt64))
set_option maxRecDepth 65536 in
set_option maxHeartbeats 40000000 in
theorem own_rmdelays6 (l : Launch) (Z : State) (a0 : Array Value) (hw : ∀ d ∈ tables_1, d.before a0 Z = true) (ws : List Jvm.Cond) (pdelays6_1 : Int32) (h0 : Heap) (n0 : Nat) (Z0 : n0 ≤ h0.size) :
    MetFree l (⟨"com/example/arborway/arborway/sim/WalkRunningCountPinLaw", "delays", "(II)[D"⟩ : MethodName) (head1 (Jvm.Cond.code (⟨"com/example/arborway/arborway/sim/WalkRunningCountPinLaw", "delays", "(II)[D"⟩ : MethodName) method_7_code 2 (some (.array .double)) :: ws) ({ frames := 2, cells := 1, slots := 6, locals := 29 } : Room)) (fun a U => a = #[(.int (6 : Int32)), (.int pdelays6_1)] ∧ Z.Warmed39 U.vm ∧ U.heap = h0) (fun _ _ _ _ _ => True) (fun _ U o U' => ∃ v L, o = .returned v ∧ own_Qdelays6 Z pdelays6_1 h0 n0 v U'.heap L ∧ FrameEnd U o U' L ({ frames := 2, cells := 1, slots := 6, locals := 29 } : Room).cells ({ frames := 2, cells := 1, slots := 6, locals := 29 } : Room).slots) := by
  refine MetFree.of_bodySF (plainFor_of_name own_pn0) hisR ?_
  intro p e s m args below meth c s₁ Bd hml0 hP hK
  obtain ⟨rfl, hZ, hh⟩ := hP
  have hx := Bd.exec
  have hby := Bd.bytes
  have hml : c.maxLocals = 2 := hml0
  have hown : s.vm.findClass "com/example/arborway/arborway/sim/WalkRunningCountPinLaw" = some m.cls := findClass_of_methodNamed Bd.named
  have hnm := (name_of_methodNamed Bd.named Bd.method).1
  have X0 : Stand p l e ({ frames := 2, cells := 1, slots := 6, locals := 29 } : Room) s m #[(.int (6 : Int32)), (.int pdelays6_1)] below meth c s₁ [] 0 0 := Stand.of_body Bd
  have e0 : s₁.heap = h0 := by rw [← hh, Bd.state]; rfl
  have N0 := Fr.nil n0
  have Zr : h0.size ≤ h0.size := Nat.le_refl _
  have pre0 : ∀ t, Steps p.tables e below (s₁.setTop (mkF m 0 #[.val (.int (6 : Int32)), .val (.int pdelays6_1)] [])) t → Steps p.tables e below (s₁.setTop (entryFrame m #[(.int (6 : Int32)), (.int pdelays6_1)] 2)) t := fun t k => castTop (own_efdelays6 m pdelays6_1) k
  obtain ⟨Tndelays6_1, hndelays6_1, kndelays6_1, Xndelays6_1, endelays6_1, Endelays6_1, Andelays6_1, stndelays6_1⟩ := newP X0 hx hZ (own_W hw 16 rfl) e0 (g := (mkF m 175 #[.val (.int (6 : Int32)), .val (.int pdelays6_1)] [(.int (6 : Int32))])) rfl (hb hby own_d4_175) rfl (by decide) (cap := 6) (by decide) (by decide) (by decide) (by decide)
  obtain ⟨bndelays6_1, gndelays6_1⟩ : ∃ z, z = h0.size := ⟨_, rfl⟩
  rw [← gndelays6_1] at Andelays6_1 stndelays6_1
  have g_bndelays6_1 : n0 ≤ bndelays6_1 := Nat.le_trans Z0 (Nat.le_of_eq gndelays6_1.symm)
  have sz_bndelays6_1 : h0.size ≤ bndelays6_1 := Nat.le_trans Zr (Nat.le_of_eq gndelays6_1.symm)
  have szdelays6_2 : h0.size ≤ hndelays6_1.size := Nat.le_trans Zr Endelays6_1.1
  have V_bndelays6_1 : Arv Z hndelays6_1 bndelays6_1 kndelays6_1 .double (6 : Int32) [(.double (0 : UInt64)), (.double (0 : UInt64)), (.double (0 : UInt64)), (.double (0 : UInt64)), (.double (0 : UInt64)), (.double (0 : UInt64))] (.double (0 : UInt64)) := (Arv.new Andelays6_1 (by decide)).pad (pad_rep [] (.double (0 : UInt64)) 6)
  obtain ⟨_, _, ⟨Tkdelays6_3, Lkdelays6_3, kkdelays6_3, nkdelays6_3⟩, -, Xkdelays6_3, ⟨Lckdelays6_3, hQkdelays6_3, lkdelays6_3, ykdelays6_3, zkdelays6_3⟩, stkdelays6_3⟩ := Jvm.LawKit.callS Xndelays6_1 hx (y := (⟨"com/example/arborway/arborway/sim/WalkRunningCountPinLaw", "del", "(II)D"⟩ : MethodName)) hown (mvT hZ (own_W hw 47 rfl)) (mvT hZ (own_W hw 48 rfl)) (mvT hZ (own_W hw 3 rfl)) (mvT hZ (own_W hw 49 rfl)) (by decide) (backOf (W := 3) (own_rm10 l Z a0 hw [] pdelays6_1 (0 : Int32) hndelays6_1 n0 (Nat.le_trans Z0 szdelays6_2)) hZ (own_W hw 49 rfl) (own_W hw 3 rfl) (by decide) (by decide)) (g := (mkF m 181 #[.val (.int (6 : Int32)), .val (.int pdelays6_1)] [(.int (0 : Int32)), (.int pdelays6_1), (.int (0 : Int32)), (.ref bndelays6_1), (.ref bndelays6_1)])) rfl (by rw [hml]; rfl) (argsL := [(.int pdelays6_1), (.int (0 : Int32))]) (rest := [(.int (0 : Int32)), (.ref bndelays6_1), (.ref bndelays6_1)]) (lenOf own_pd3 rfl) rfl (by show 2 * 0 + _ ≤ _; exact Nat.le_of_eq rfl) (hb hby own_d4_181) (fun _ _ => ⟨rfl, endelays6_1, (by decide : 1 + 0 ≤ _), (by decide : 6 + 0 ≤ _)⟩)
  dsimp only [Pt.U, Pt.locs, Pt.cells, Pt.slots] at Xkdelays6_3 lkdelays6_3 ykdelays6_3 zkdelays6_3 stkdelays6_3 hQkdelays6_3
  replace lkdelays6_3 := lkdelays6_3.symm; replace ykdelays6_3 := ykdelays6_3.symm; replace zkdelays6_3 := zkdelays6_3.symm; subst lkdelays6_3 ykdelays6_3 zkdelays6_3
  obtain ⟨rfl, Nkdelays6_3q, ekdelays6_3⟩ := hQkdelays6_3
  have Nkdelays6_3 := Fr.app N0 Nkdelays6_3q
  have Oodelays6_4 := V_bndelays6_1
  obtain ⟨clodelays6_4, Arodelays6_4, qodelays6_4, Sodelays6_4, Nodelays6_4, Hodelays6_4, Godelays6_4⟩ := Oodelays6_4
  have hinodelays6_4 : ¬ ((0 : Int32) < 0 ∨ clodelays6_4.slots.size ≤ ((0 : Int32)).toNatClampNeg) := inb_of Sodelays6_4 ⟨by decide, by decide⟩
  obtain ⟨Todelays6_4, hodelays6_4, Xodelays6_4, eodelays6_4, Wodelays6_4, stodelays6_4⟩ := stD Xkdelays6_3 hx hZ ekdelays6_3 Arodelays6_4 (j := (0 : Int32)) hinodelays6_4 (g := (mkF m 184 #[.val (.int (6 : Int32)), .val (.int pdelays6_1)] [(.double (own_j10_0 pdelays6_1 (0 : Int32))), (.int (0 : Int32)), (.ref bndelays6_1), (.ref bndelays6_1)])) rfl rfl (hb hby own_d4_184)
  have Vwodelays6_4 : Arv Z hodelays6_4 bndelays6_1 kndelays6_1 .double (6 : Int32) [(.double (own_vdelays6_0 pdelays6_1)), (.double (0 : UInt64)), (.double (0 : UInt64)), (.double (0 : UInt64)), (.double (0 : UInt64)), (.double (0 : UInt64))] (.double (0 : UInt64)) := Arv.set Arodelays6_4 qodelays6_4 Sodelays6_4 Nodelays6_4 Hodelays6_4 Godelays6_4 rfl Wodelays6_4 0 rfl (Nat.le_of_ble_eq_true rfl)
  have szdelays6_5 : h0.size ≤ hodelays6_4.size := Nat.le_trans szdelays6_2 (Nat.le_of_eq Wodelays6_4.size.symm)
  have Nfodelays6_4 := Fr.snoc Xodelays6_4 Nkdelays6_3 g_bndelays6_1
  obtain ⟨_, _, ⟨Tkdelays6_6, Lkdelays6_6, kkdelays6_6, nkdelays6_6⟩, -, Xkdelays6_6, ⟨Lckdelays6_6, hQkdelays6_6, lkdelays6_6, ykdelays6_6, zkdelays6_6⟩, stkdelays6_6⟩ := Jvm.LawKit.callS Xodelays6_4 hx (y := (⟨"com/example/arborway/arborway/sim/WalkRunningCountPinLaw", "del", "(II)D"⟩ : MethodName)) hown (mvT hZ (own_W hw 47 rfl)) (mvT hZ (own_W hw 48 rfl)) (mvT hZ (own_W hw 3 rfl)) (mvT hZ (own_W hw 49 rfl)) (by decide) (backOf (W := 3) (own_rm10 l Z a0 hw [] pdelays6_1 (1 : Int32) hodelays6_4 n0 (Nat.le_trans Z0 szdelays6_5)) hZ (own_W hw 49 rfl) (own_W hw 3 rfl) (by decide) (by decide)) (g := (mkF m 189 #[.val (.int (6 : Int32)), .val (.int pdelays6_1)] [(.int (1 : Int32)), (.int pdelays6_1), (.int (1 : Int32)), (.ref bndelays6_1), (.ref bndelays6_1)])) rfl (by rw [hml]; rfl) (argsL := [(.int pdelays6_1), (.int (1 : Int32))]) (rest := [(.int (1 : Int32)), (.ref bndelays6_1), (.ref bndelays6_1)]) (lenOf own_pd3 rfl) rfl (by show 2 * 0 + _ ≤ _; exact Nat.le_of_eq rfl) (hb hby own_d4_189) (fun _ _ => ⟨rfl, eodelays6_4, (by decide : 1 + 0 ≤ _), (by decide : 6 + 0 ≤ _)⟩)
  dsimp only [Pt.U, Pt.locs, Pt.cells, Pt.slots] at Xkdelays6_6 lkdelays6_6 ykdelays6_6 zkdelays6_6 stkdelays6_6 hQkdelays6_6
  replace lkdelays6_6 := lkdelays6_6.symm; replace ykdelays6_6 := ykdelays6_6.symm; replace zkdelays6_6 := zkdelays6_6.symm; subst lkdelays6_6 ykdelays6_6 zkdelays6_6
  obtain ⟨rfl, Nkdelays6_6q, ekdelays6_6⟩ := hQkdelays6_6
  have Nkdelays6_6 := Fr.app Nfodelays6_4 Nkdelays6_6q
  have Oodelays6_7 := Vwodelays6_4
  obtain ⟨clodelays6_7, Arodelays6_7, qodelays6_7, Sodelays6_7, Nodelays6_7, Hodelays6_7, Godelays6_7⟩ := Oodelays6_7
  have hinodelays6_7 : ¬ ((1 : Int32) < 0 ∨ clodelays6_7.slots.size ≤ ((1 : Int32)).toNatClampNeg) := inb_of Sodelays6_7 ⟨by decide, by decide⟩
  obtain ⟨Todelays6_7, hodelays6_7, Xodelays6_7, eodelays6_7, Wodelays6_7, stodelays6_7⟩ := stD Xkdelays6_6 hx hZ ekdelays6_6 Arodelays6_7 (j := (1 : Int32)) hinodelays6_7 (g := (mkF m 192 #[.val (.int (6 : Int32)), .val (.int pdelays6_1)] [(.double (own_j10_0 pdelays6_1 (1 : Int32))), (.int (1 : Int32)), (.ref bndelays6_1), (.ref bndelays6_1)])) rfl rfl (hb hby own_d4_192)
  have Vwodelays6_7 : Arv Z hodelays6_7 bndelays6_1 kndelays6_1 .double (6 : Int32) [(.double (own_vdelays6_0 pdelays6_1)), (.double (own_vdelays6_1 pdelays6_1)), (.double (0 : UInt64)), (.double (0 : UInt64)), (.double (0 : UInt64)), (.double (0 : UInt64))] (.double (0 : UInt64)) := Arv.set Arodelays6_7 qodelays6_7 Sodelays6_7 Nodelays6_7 Hodelays6_7 Godelays6_7 rfl Wodelays6_7 1 rfl (Nat.le_of_ble_eq_true rfl)
  have szdelays6_8 : h0.size ≤ hodelays6_7.size := Nat.le_trans szdelays6_5 (Nat.le_of_eq Wodelays6_7.size.symm)
  have Nfodelays6_7 := Fr.snoc Xodelays6_7 Nkdelays6_6 g_bndelays6_1
  obtain ⟨_, _, ⟨Tkdelays6_9, Lkdelays6_9, kkdelays6_9, nkdelays6_9⟩, -, Xkdelays6_9, ⟨Lckdelays6_9, hQkdelays6_9, lkdelays6_9, ykdelays6_9, zkdelays6_9⟩, stkdelays6_9⟩ := Jvm.LawKit.callS Xodelays6_7 hx (y := (⟨"com/example/arborway/arborway/sim/WalkRunningCountPinLaw", "del", "(II)D"⟩ : MethodName)) hown (mvT hZ (own_W hw 47 rfl)) (mvT hZ (own_W hw 48 rfl)) (mvT hZ (own_W hw 3 rfl)) (mvT hZ (own_W hw 49 rfl)) (by decide) (backOf (W := 3) (own_rm10 l Z a0 hw [] pdelays6_1 (2 : Int32) hodelays6_7 n0 (Nat.le_trans Z0 szdelays6_8)) hZ (own_W hw 49 rfl) (own_W hw 3 rfl) (by decide) (by decide)) (g := (mkF m 197 #[.val (.int (6 : Int32)), .val (.int pdelays6_1)] [(.int (2 : Int32)), (.int pdelays6_1), (.int (2 : Int32)), (.ref bndelays6_1), (.ref bndelays6_1)])) rfl (by rw [hml]; rfl) (argsL := [(.int pdelays6_1), (.int (2 : Int32))]) (rest := [(.int (2 : Int32)), (.ref bndelays6_1), (.ref bndelays6_1)]) (lenOf own_pd3 rfl) rfl (by show 2 * 0 + _ ≤ _; exact Nat.le_of_eq rfl) (hb hby own_d4_197) (fun _ _ => ⟨rfl, eodelays6_7, (by decide : 1 + 0 ≤ _), (by decide : 6 + 0 ≤ _)⟩)
  dsimp only [Pt.U, Pt.locs, Pt.cells, Pt.slots] at Xkdelays6_9 lkdelays6_9 ykdelays6_9 zkdelays6_9 stkdelays6_9 hQkdelays6_9
  replace lkdelays6_9 := lkdelays6_9.symm; replace ykdelays6_9 := ykdelays6_9.symm; replace zkdelays6_9 := zkdelays6_9.symm; subst lkdelays6_9 ykdelays6_9 zkdelays6_9
  obtain ⟨rfl, Nkdelays6_9q, ekdelays6_9⟩ := hQkdelays6_9
  have Nkdelays6_9 := Fr.app Nfodelays6_7 Nkdelays6_9q
  have Oodelays6_10 := Vwodelays6_7
  obtain ⟨clodelays6_10, Arodelays6_10, qodelays6_10, Sodelays6_10, Nodelays6_10, Hodelays6_10, Godelays6_10⟩ := Oodelays6_10
  have hinodelays6_10 : ¬ ((2 : Int32) < 0 ∨ clodelays6_10.slots.size ≤ ((2 : Int32)).toNatClampNeg) := inb_of Sodelays6_10 ⟨by decide, by decide⟩
  obtain ⟨Todelays6_10, hodelays6_10, Xodelays6_10, eodelays6_10, Wodelays6_10, stodelays6_10⟩ := stD Xkdelays6_9 hx hZ ekdelays6_9 Arodelays6_10 (j := (2 : Int32)) hinodelays6_10 (g := (mkF m 200 #[.val (.int (6 : Int32)), .val (.int pdelays6_1)] [(.double (own_j10_0 pdelays6_1 (2 : Int32))), (.int (2 : Int32)), (.ref bndelays6_1), (.ref bndelays6_1)])) rfl rfl (hb hby own_d4_200)
  have Vwodelays6_10 : Arv Z hodelays6_10 bndelays6_1 kndelays6_1 .double (6 : Int32) [(.double (own_vdelays6_0 pdelays6_1)), (.double (own_vdelays6_1 pdelays6_1)), (.double (own_vdelays6_2 pdelays6_1)), (.double (0 : UInt64)), (.double (0 : UInt64)), (.double (0 : UInt64))] (.double (0 : UInt64)) := Arv.set Arodelays6_10 qodelays6_10 Sodelays6_10 Nodelays6_10 Hodelays6_10 Godelays6_10 rfl Wodelays6_10 2 rfl (Nat.le_of_ble_eq_true rfl)
  have szdelays6_11 : h0.size ≤ hodelays6_10.size := Nat.le_trans szdelays6_8 (Nat.le_of_eq Wodelays6_10.size.symm)
  have Nfodelays6_10 := Fr.snoc Xodelays6_10 Nkdelays6_9 g_bndelays6_1
  obtain ⟨_, _, ⟨Tkdelays6_12, Lkdelays6_12, kkdelays6_12, nkdelays6_12⟩, -, Xkdelays6_12, ⟨Lckdelays6_12, hQkdelays6_12, lkdelays6_12, ykdelays6_12, zkdelays6_12⟩, stkdelays6_12⟩ := Jvm.LawKit.callS Xodelays6_10 hx (y := (⟨"com/example/arborway/arborway/sim/WalkRunningCountPinLaw", "del", "(II)D"⟩ : MethodName)) hown (mvT hZ (own_W hw 47 rfl)) (mvT hZ (own_W hw 48 rfl)) (mvT hZ (own_W hw 3 rfl)) (mvT hZ (own_W hw 49 rfl)) (by decide) (backOf (W := 3) (own_rm10 l Z a0 hw [] pdelays6_1 (3 : Int32) hodelays6_10 n0 (Nat.le_trans Z0 szdelays6_11)) hZ (own_W hw 49 rfl) (own_W hw 3 rfl) (by decide) (by decide)) (g := (mkF m 205 #[.val (.int (6 : Int32)), .val (.int pdelays6_1)] [(.int (3 : Int32)), (.int pdelays6_1), (.int (3 : Int32)), (.ref bndelays6_1), (.ref bndelays6_1)])) rfl (by rw [hml]; rfl) (argsL := [(.int pdelays6_1), (.int (3 : Int32))]) (rest := [(.int (3 : Int32)), (.ref bndelays6_1), (.ref bndelays6_1)]) (lenOf own_pd3 rfl) rfl (by show 2 * 0 + _ ≤ _; exact Nat.le_of_eq rfl) (hb hby own_d4_205) (fun _ _ => ⟨rfl, eodelays6_10, (by decide : 1 + 0 ≤ _), (by decide : 6 + 0 ≤ _)⟩)
  dsimp only [Pt.U, Pt.locs, Pt.cells, Pt.slots] at Xkdelays6_12 lkdelays6_12 ykdelays6_12 zkdelays6_12 stkdelays6_12 hQkdelays6_12
  replace lkdelays6_12 := lkdelays6_12.symm; replace ykdelays6_12 := ykdelays6_12.symm; replace zkdelays6_12 := zkdelays6_12.symm; subst lkdelays6_12 ykdelays6_12 zkdelays6_12
  obtain ⟨rfl, Nkdelays6_12q, ekdelays6_12⟩ := hQkdelays6_12
  have Nkdelays6_12 := Fr.app Nfodelays6_10 Nkdelays6_12q
  have Oodelays6_13 := Vwodelays6_10
  obtain ⟨clodelays6_13, Arodelays6_13, qodelays6_13, Sodelays6_13, Nodelays6_13, Hodelays6_13, Godelays6_13⟩ := Oodelays6_13
  have hinodelays6_13 : ¬ ((3 : Int32) < 0 ∨ clodelays6_13.slots.size ≤ ((3 : Int32)).toNatClampNeg) := inb_of Sodelays6_13 ⟨by decide, by decide⟩
  obtain ⟨Todelays6_13, hodelays6_13, Xodelays6_13, eodelays6_13, Wodelays6_13, stodelays6_13⟩ := stD Xkdelays6_12 hx hZ ekdelays6_12 Arodelays6_13 (j := (3 : Int32)) hinodelays6_13 (g := (mkF m 208 #[.val (.int (6 : Int32)), .val (.int pdelays6_1)] [(.double (own_j10_0 pdelays6_1 (3 : Int32))), (.int (3 : Int32)), (.ref bndelays6_1), (.ref bndelays6_1)])) rfl rfl (hb hby own_d4_208)
  have Vwodelays6_13 : Arv Z hodelays6_13 bndelays6_1 kndelays6_1 .double (6 : Int32) [(.double (own_vdelays6_0 pdelays6_1)), (.double (own_vdelays6_1 pdelays6_1)), (.double (own_vdelays6_2 pdelays6_1)), (.double (own_vdelays6_3 pdelays6_1)), (.double (0 : UInt64)), (.double (0 : UInt64))] (.double (0 : UInt64)) := Arv.set Arodelays6_13 qodelays6_13 Sodelays6_13 Nodelays6_13 Hodelays6_13 Godelays6_13 rfl Wodelays6_13 3 rfl (Nat.le_of_ble_eq_true rfl)
  have szdelays6_14 : h0.size ≤ hodelays6_13.size := Nat.le_trans szdelays6_11 (Nat.le_of_eq Wodelays6_13.size.symm)
  have Nfodelays6_13 := Fr.snoc Xodelays6_13 Nkdelays6_12 g_bndelays6_1
  obtain ⟨_, _, ⟨Tkdelays6_15, Lkdelays6_15, kkdelays6_15, nkdelays6_15⟩, -, Xkdelays6_15, ⟨Lckdelays6_15, hQkdelays6_15, lkdelays6_15, ykdelays6_15, zkdelays6_15⟩, stkdelays6_15⟩ := Jvm.LawKit.callS Xodelays6_13 hx (y := (⟨"com/example/arborway/arborway/sim/WalkRunningCountPinLaw", "del", "(II)D"⟩ : MethodName)) hown (mvT hZ (own_W hw 47 rfl)) (mvT hZ (own_W hw 48 rfl)) (mvT hZ (own_W hw 3 rfl)) (mvT hZ (own_W hw 49 rfl)) (by decide) (backOf (W := 3) (own_rm10 l Z a0 hw [] pdelays6_1 (4 : Int32) hodelays6_13 n0 (Nat.le_trans Z0 szdelays6_14)) hZ (own_W hw 49 rfl) (own_W hw 3 rfl) (by decide) (by decide)) (g := (mkF m 213 #[.val (.int (6 : Int32)), .val (.int pdelays6_1)] [(.int (4 : Int32)), (.int pdelays6_1), (.int (4 : Int32)), (.ref bndelays6_1), (.ref bndelays6_1)])) rfl (by rw [hml]; rfl) (argsL := [(.int pdelays6_1), (.int (4 : Int32))]) (rest := [(.int (4 : Int32)), (.ref bndelays6_1), (.ref bndelays6_1)]) (lenOf own_pd3 rfl) rfl (by show 2 * 0 + _ ≤ _; exact Nat.le_of_eq rfl) (hb hby own_d4_213) (fun _ _ => ⟨rfl, eodelays6_13, (by decide : 1 + 0 ≤ _), (by decide : 6 + 0 ≤ _)⟩)
  dsimp only [Pt.U, Pt.locs, Pt.cells, Pt.slots] at Xkdelays6_15 lkdelays6_15 ykdelays6_15 zkdelays6_15 stkdelays6_15 hQkdelays6_15
  replace lkdelays6_15 := lkdelays6_15.symm; replace ykdelays6_15 := ykdelays6_15.symm; replace zkdelays6_15 := zkdelays6_15.symm; subst lkdelays6_15 ykdelays6_15 zkdelays6_15
  obtain ⟨rfl, Nkdelays6_15q, ekdelays6_15⟩ := hQkdelays6_15
  have Nkdelays6_15 := Fr.app Nfodelays6_13 Nkdelays6_15q
  have Oodelays6_16 := Vwodelays6_13
  obtain ⟨clodelays6_16, Arodelays6_16, qodelays6_16, Sodelays6_16, Nodelays6_16, Hodelays6_16, Godelays6_16⟩ := Oodelays6_16
  have hinodelays6_16 : ¬ ((4 : Int32) < 0 ∨ clodelays6_16.slots.size ≤ ((4 : Int32)).toNatClampNeg) := inb_of Sodelays6_16 ⟨by decide, by decide⟩
  obtain ⟨Todelays6_16, hodelays6_16, Xodelays6_16, eodelays6_16, Wodelays6_16, stodelays6_16⟩ := stD Xkdelays6_15 hx hZ ekdelays6_15 Arodelays6_16 (j := (4 : Int32)) hinodelays6_16 (g := (mkF m 216 #[.val (.int (6 : Int32)), .val (.int pdelays6_1)] [(.double (own_j10_0 pdelays6_1 (4 : Int32))), (.int (4 : Int32)), (.ref bndelays6_1), (.ref bndelays6_1)])) rfl rfl (hb hby own_d4_216)
  have Vwodelays6_16 : Arv Z hodelays6_16 bndelays6_1 kndelays6_1 .double (6 : Int32) [(.double (own_vdelays6_0 pdelays6_1)), (.double (own_vdelays6_1 pdelays6_1)), (.double (own_vdelays6_2 pdelays6_1)), (.double (own_vdelays6_3 pdelays6_1)), (.double (own_vdelays6_4 pdelays6_1)), (.double (0 : UInt64))] (.double (0 : UInt64)) := Arv.set Arodelays6_16 qodelays6_16 Sodelays6_16 Nodelays6_16 Hodelays6_16 Godelays6_16 rfl Wodelays6_16 4 rfl (Nat.le_of_ble_eq_true rfl)
  have szdelays6_17 : h0.size ≤ hodelays6_16.size := Nat.le_trans szdelays6_14 (Nat.le_of_eq Wodelays6_16.size.symm)
  have Nfodelays6_16 := Fr.snoc Xodelays6_16 Nkdelays6_15 g_bndelays6_1
  obtain ⟨_, _, ⟨Tkdelays6_18, Lkdelays6_18, kkdelays6_18, nkdelays6_18⟩, -, Xkdelays6_18, ⟨Lckdelays6_18, hQkdelays6_18, lkdelays6_18, ykdelays6_18, zkdelays6_18⟩, stkdelays6_18⟩ := Jvm.LawKit.callS Xodelays6_16 hx (y := (⟨"com/example/arborway/arborway/sim/WalkRunningCountPinLaw", "del", "(II)D"⟩ : MethodName)) hown (mvT hZ (own_W hw 47 rfl)) (mvT hZ (own_W hw 48 rfl)) (mvT hZ (own_W hw 3 rfl)) (mvT hZ (own_W hw 49 rfl)) (by decide) (backOf (W := 3) (own_rm10 l Z a0 hw [] pdelays6_1 (5 : Int32) hodelays6_16 n0 (Nat.le_trans Z0 szdelays6_17)) hZ (own_W hw 49 rfl) (own_W hw 3 rfl) (by decide) (by decide)) (g := (mkF m 221 #[.val (.int (6 : Int32)), .val (.int pdelays6_1)] [(.int (5 : Int32)), (.int pdelays6_1), (.int (5 : Int32)), (.ref bndelays6_1), (.ref bndelays6_1)])) rfl (by rw [hml]; rfl) (argsL := [(.int pdelays6_1), (.int (5 : Int32))]) (rest := [(.int (5 : Int32)), (.ref bndelays6_1), (.ref bndelays6_1)]) (lenOf own_pd3 rfl) rfl (by show 2 * 0 + _ ≤ _; exact Nat.le_of_eq rfl) (hb hby own_d4_221) (fun _ _ => ⟨rfl, eodelays6_16, (by decide : 1 + 0 ≤ _), (by decide : 6 + 0 ≤ _)⟩)
  dsimp only [Pt.U, Pt.locs, Pt.cells, Pt.slots] at Xkdelays6_18 lkdelays6_18 ykdelays6_18 zkdelays6_18 stkdelays6_18 hQkdelays6_18
  replace lkdelays6_18 := lkdelays6_18.symm; replace ykdelays6_18 := ykdelays6_18.symm; replace zkdelays6_18 := zkdelays6_18.symm; subst lkdelays6_18 ykdelays6_18 zkdelays6_18
  obtain ⟨rfl, Nkdelays6_18q, ekdelays6_18⟩ := hQkdelays6_18
  have Nkdelays6_18 := Fr.app Nfodelays6_16 Nkdelays6_18q
  have Oodelays6_19 := Vwodelays6_16
  obtain ⟨clodelays6_19, Arodelays6_19, qodelays6_19, Sodelays6_19, Nodelays6_19, Hodelays6_19, Godelays6_19⟩ := Oodelays6_19
  have hinodelays6_19 : ¬ ((5 : Int32) < 0 ∨ clodelays6_19.slots.size ≤ ((5 : Int32)).toNatClampNeg) := inb_of Sodelays6_19 ⟨by decide, by decide⟩
  obtain ⟨Todelays6_19, hodelays6_19, Xodelays6_19, eodelays6_19, Wodelays6_19, stodelays6_19⟩ := stD Xkdelays6_18 hx hZ ekdelays6_18 Arodelays6_19 (j := (5 : Int32)) hinodelays6_19 (g := (mkF m 224 #[.val (.int (6 : Int32)), .val (.int pdelays6_1)] [(.double (own_j10_0 pdelays6_1 (5 : Int32))), (.int (5 : Int32)), (.ref bndelays6_1), (.ref bndelays6_1)])) rfl rfl (hb hby own_d4_224)
  have Vwodelays6_19 : Arv Z hodelays6_19 bndelays6_1 kndelays6_1 .double (6 : Int32) [(.double (own_vdelays6_0 pdelays6_1)), (.double (own_vdelays6_1 pdelays6_1)), (.double (own_vdelays6_2 pdelays6_1)), (.double (own_vdelays6_3 pdelays6_1)), (.double (own_vdelays6_4 pdelays6_1)), (.double (own_vdelays6_5 pdelays6_1))] (.double (0 : UInt64)) := Arv.set Arodelays6_19 qodelays6_19 Sodelays6_19 Nodelays6_19 Hodelays6_19 Godelays6_19 rfl Wodelays6_19 5 rfl (Nat.le_of_ble_eq_true rfl)
  have szdelays6_20 : h0.size ≤ hodelays6_19.size := Nat.le_trans szdelays6_17 (Nat.le_of_eq Wodelays6_19.size.symm)
  have Nfodelays6_19 := Fr.snoc Xodelays6_19 Nkdelays6_18 g_bndelays6_1
  obtain ⟨fs, hr, hrun, hended, hW, hsame⟩ := Xodelays6_19.leave (v := some (.ref bndelays6_1)) (fun h => by rw [Bd.returns] at h; cases h)
  refine ⟨_, _, pre0 _ (?_), hrun, hended, _, _, rfl, ?_, ⟨_, rfl⟩, hW, hsame.mono (by decide) (by decide)⟩
  · show Steps p.tables e below (s₁.setTop (mkF m 0 #[.val (.int (6 : Int32)), .val (.int pdelays6_1)] [])) _
    refine XS.iloadN X0.here hx rfl (hb hby own_d4_0) rfl ?_
    refine XS.ifYes X0.here hx rfl (pc0 := 1) (pc' := 8) rfl (hb hby own_d4_1) rfl (XT.i0_ne_t (by decide : ¬ ((6 : Int32) = (0 : Int32)))) (by decide) (by decide) ?_
    refine XS.iloadN X0.here hx rfl (hb hby own_d4_8) rfl ?_
    refine XS.iconst X0.here hx rfl (hb hby own_d4_9) ?_
    refine XS.icmpYes X0.here hx rfl (pc0 := 10) (pc' := 25) rfl (hb hby own_d4_10) rfl (XT.ii_ne_t (by decide : ¬ ((6 : Int32) = (1 : Int32)))) (by decide) (by decide) ?_
    refine XS.iloadN X0.here hx rfl (hb hby own_d4_25) rfl ?_
    refine XS.iconst X0.here hx rfl (hb hby own_d4_26) ?_
    refine XS.icmpYes X0.here hx rfl (pc0 := 27) (pc' := 50) rfl (hb hby own_d4_27) rfl (XT.ii_ne_t (by decide : ¬ ((6 : Int32) = (2 : Int32)))) (by decide) (by decide) ?_
    refine XS.iloadN X0.here hx rfl (hb hby own_d4_50) rfl ?_
    refine XS.iconst X0.here hx rfl (hb hby own_d4_51) ?_
    refine XS.icmpYes X0.here hx rfl (pc0 := 52) (pc' := 83) rfl (hb hby own_d4_52) rfl (XT.ii_ne_t (by decide : ¬ ((6 : Int32) = (3 : Int32)))) (by decide) (by decide) ?_
    refine XS.iloadN X0.here hx rfl (hb hby own_d4_83) rfl ?_
    refine XS.iconst X0.here hx rfl (hb hby own_d4_84) ?_
    refine XS.icmpYes X0.here hx rfl (pc0 := 85) (pc' := 124) rfl (hb hby own_d4_85) rfl (XT.ii_ne_t (by decide : ¬ ((6 : Int32) = (4 : Int32)))) (by decide) (by decide) ?_
    refine XS.iloadN X0.here hx rfl (hb hby own_d4_124) rfl ?_
    refine XS.iconst X0.here hx rfl (hb hby own_d4_125) ?_
    refine XS.icmpYes X0.here hx rfl (pc0 := 126) (pc' := 173) rfl (hb hby own_d4_126) rfl (XT.ii_ne_t (by decide : ¬ ((6 : Int32) = (5 : Int32)))) (by decide) (by decide) ?_
    refine XS.bipush X0.here hx rfl (hb hby own_d4_173) ?_
    refine stndelays6_1 _ ?_
    show Steps p.tables e below (Tndelays6_1.setTop (mkF m 177 #[.val (.int (6 : Int32)), .val (.int pdelays6_1)] [(.ref bndelays6_1)])) _
    refine XS.dup Xndelays6_1.here hx rfl (hb hby own_d4_177) rfl rfl ?_
    refine XS.iconst Xndelays6_1.here hx rfl (hb hby own_d4_178) ?_
    refine XS.iloadN Xndelays6_1.here hx rfl (hb hby own_d4_179) rfl ?_
    refine XS.iconst Xndelays6_1.here hx rfl (hb hby own_d4_180) ?_
    refine stkdelays6_3 _ ?_
    show Steps p.tables e below (Tkdelays6_3.setTop (mkF m 184 #[.val (.int (6 : Int32)), .val (.int pdelays6_1)] [(.double (own_j10_0 pdelays6_1 (0 : Int32))), (.int (0 : Int32)), (.ref bndelays6_1), (.ref bndelays6_1)])) _
    refine stodelays6_4 _ ?_
    show Steps p.tables e below (Todelays6_4.setTop (mkF m 185 #[.val (.int (6 : Int32)), .val (.int pdelays6_1)] [(.ref bndelays6_1)])) _
    refine XS.dup Xodelays6_4.here hx rfl (hb hby own_d4_185) rfl rfl ?_
    refine XS.iconst Xodelays6_4.here hx rfl (hb hby own_d4_186) ?_
    refine XS.iloadN Xodelays6_4.here hx rfl (hb hby own_d4_187) rfl ?_
    refine XS.iconst Xodelays6_4.here hx rfl (hb hby own_d4_188) ?_
    refine stkdelays6_6 _ ?_
    show Steps p.tables e below (Tkdelays6_6.setTop (mkF m 192 #[.val (.int (6 : Int32)), .val (.int pdelays6_1)] [(.double (own_j10_0 pdelays6_1 (1 : Int32))), (.int (1 : Int32)), (.ref bndelays6_1), (.ref bndelays6_1)])) _
    refine stodelays6_7 _ ?_
    show Steps p.tables e below (Todelays6_7.setTop (mkF m 193 #[.val (.int (6 : Int32)), .val (.int pdelays6_1)] [(.ref bndelays6_1)])) _
    refine XS.dup Xodelays6_7.here hx rfl (hb hby own_d4_193) rfl rfl ?_
    refine XS.iconst Xodelays6_7.here hx rfl (hb hby own_d4_194) ?_
    refine XS.iloadN Xodelays6_7.here hx rfl (hb hby own_d4_195) rfl ?_
    refine XS.iconst Xodelays6_7.here hx rfl (hb hby own_d4_196) ?_
    refine stkdelays6_9 _ ?_
    show Steps p.tables e below (Tkdelays6_9.setTop (mkF m 200 #[.val (.int (6 : Int32)), .val (.int pdelays6_1)] [(.double (own_j10_0 pdelays6_1 (2 : Int32))), (.int (2 : Int32)), (.ref bndelays6_1), (.ref bndelays6_1)])) _
    refine stodelays6_10 _ ?_
    show Steps p.tables e below (Todelays6_10.setTop (mkF m 201 #[.val (.int (6 : Int32)), .val (.int pdelays6_1)] [(.ref bndelays6_1)])) _
    refine XS.dup Xodelays6_10.here hx rfl (hb hby own_d4_201) rfl rfl ?_
    refine XS.iconst Xodelays6_10.here hx rfl (hb hby own_d4_202) ?_
    refine XS.iloadN Xodelays6_10.here hx rfl (hb hby own_d4_203) rfl ?_
    refine XS.iconst Xodelays6_10.here hx rfl (hb hby own_d4_204) ?_
    refine stkdelays6_12 _ ?_
    show Steps p.tables e below (Tkdelays6_12.setTop (mkF m 208 #[.val (.int (6 : Int32)), .val (.int pdelays6_1)] [(.double (own_j10_0 pdelays6_1 (3 : Int32))), (.int (3 : Int32)), (.ref bndelays6_1), (.ref bndelays6_1)])) _
    refine stodelays6_13 _ ?_
    show Steps p.tables e below (Todelays6_13.setTop (mkF m 209 #[.val (.int (6 : Int32)), .val (.int pdelays6_1)] [(.ref bndelays6_1)])) _
    refine XS.dup Xodelays6_13.here hx rfl (hb hby own_d4_209) rfl rfl ?_
    refine XS.iconst Xodelays6_13.here hx rfl (hb hby own_d4_210) ?_
    refine XS.iloadN Xodelays6_13.here hx rfl (hb hby own_d4_211) rfl ?_
    refine XS.iconst Xodelays6_13.here hx rfl (hb hby own_d4_212) ?_
    refine stkdelays6_15 _ ?_
    show Steps p.tables e below (Tkdelays6_15.setTop (mkF m 216 #[.val (.int (6 : Int32)), .val (.int pdelays6_1)] [(.double (own_j10_0 pdelays6_1 (4 : Int32))), (.int (4 : Int32)), (.ref bndelays6_1), (.ref bndelays6_1)])) _
    refine stodelays6_16 _ ?_
    show Steps p.tables e below (Todelays6_16.setTop (mkF m 217 #[.val (.int (6 : Int32)), .val (.int pdelays6_1)] [(.ref bndelays6_1)])) _
    refine XS.dup Xodelays6_16.here hx rfl (hb hby own_d4_217) rfl rfl ?_
    refine XS.iconst Xodelays6_16.here hx rfl (hb hby own_d4_218) ?_
    refine XS.iloadN Xodelays6_16.here hx rfl (hb hby own_d4_219) rfl ?_
    refine XS.iconst Xodelays6_16.here hx rfl (hb hby own_d4_220) ?_
    refine stkdelays6_18 _ ?_
    show Steps p.tables e below (Tkdelays6_18.setTop (mkF m 224 #[.val (.int (6 : Int32)), .val (.int pdelays6_1)] [(.double (own_j10_0 pdelays6_1 (5 : Int32))), (.int (5 : Int32)), (.ref bndelays6_1), (.ref bndelays6_1)])) _
    refine stodelays6_19 _ ?_
    show Steps p.tables e below (Todelays6_19.setTop (mkF m 225 #[.val (.int (6 : Int32)), .val (.int pdelays6_1)] [(.ref bndelays6_1)])) _
    jvm_step Xodelays6_19.here [Xodelays6_19.here.top, hx, (hb hby own_d4_225), Xodelays6_19.method', Bd.returns, Value.isRef, FieldType.isReference]
    first | (intro acts; rw [hr _ acts rfl rfl rfl]) | rw [hr _ _ rfl rfl rfl]
    exact Steps.refl _
  · show own_Qdelays6 Z pdelays6_1 h0 n0 _ Todelays6_19.heap _
    rw [eodelays6_19]
    exact ⟨bndelays6_1, kndelays6_1, rfl, Nfodelays6_19, ((((((((Keep.refl h0 []).ext Endelays6_1).wr Wodelays6_4 (Or.inr sz_bndelays6_1)).wr Wodelays6_7 (Or.inr sz_bndelays6_1)).wr Wodelays6_10 (Or.inr sz_bndelays6_1)).wr Wodelays6_13 (Or.inr sz_bndelays6_1)).wr Wodelays6_16 (Or.inr sz_bndelays6_1)).wr Wodelays6_19 (Or.inr sz_bndelays6_1)), sz_bndelays6_1, Vwodelays6_19⟩
theorem own_d8_0 : decode prog_76_method_5_code 0 = .ok (.iconst 0, 1) := by decide +kernel
theorem own_d8_1 : decode prog_76_method_5_code 1 = .ok (.istore_n 1, 1) := by decide +kernel
theorem own_d8_2 : decode prog_76_method_5_code 2 = .ok (.aload_n 0, 1) := by decide +kernel
theorem own_d8_3 : decode prog_76_method_5_code 3 = .ok (.getfield 17, 3) := by decide +kernel
theorem own_d8_6 : decode prog_76_method_5_code 6 = .ok (.astore_n 2, 1) := by decide +kernel
theorem own_d8_7 : decode prog_76_method_5_code 7 = .ok (.aload_n 2, 1) := by decide +kernel
theorem own_d8_8 : decode prog_76_method_5_code 8 = .ok (.arraylength, 1) := by decide +kernel
theorem own_d8_9 : decode prog_76_method_5_code 9 = .ok (.istore_n 3, 1) := by decide +kernel
theorem own_d8_10 : decode prog_76_method_5_code 10 = .ok (.iconst 0, 1) := by decide +kernel
theorem own_d8_11 : decode prog_76_method_5_code 11 = .ok (.istore 4, 2) := by decide +kernel
theorem own_d8_13 : decode prog_76_method_5_code 13 = .ok (.iload 4, 2) := by decide +kernel
theorem own_d8_15 : decode prog_76_method_5_code 15 = .ok (.iload_n 3, 1) := by decide +kernel
theorem own_d8_16 : decode prog_76_method_5_code 16 = .ok (.if_icmp .ge 23, 3) := by decide +kernel
theorem own_d8_39 : decode prog_76_method_5_code 39 = .ok (.iload_n 1, 1) := by decide +kernel
theorem own_d8_40 : decode prog_76_method_5_code 40 = .ok (.ireturn, 1) := by decide +kernel
theorem own_efrc0 (m : MethodId) (arc0_0 : Addr) : entryFrame m #[(.ref arc0_0)] 6 = mkF m 0 #[.val (.ref arc0_0), .unset, .unset, .unset, .unset, .unset] [] := by first | (simp [entryFrame, mkF, argsToLocals, Value.category]; done) | rfl
def own_Qrc0 (Z : State) (arc0_0 : Addr) (w_running_arc0_0 : Addr) (k_w_running_arc0_0 : ClassId) (h0 : Heap) (n0 : Nat) (v : Option Value) (h : Heap) (L : List Loc) : Prop := v = some (.int (0 : Int32)) ∧ Fr n0 L ∧ h = h0
set_option maxRecDepth 65536 in
set_option maxHeartbeats 40000000 in
theorem own_rmrc0 (l : Launch) (Z : State) (a0 : Array Value) (hw : ∀ d ∈ tables_1, d.before a0 Z = true) (ws : List Jvm.Cond) (arc0_0 : Addr) (w_running_arc0_0 : Addr) (k_w_running_arc0_0 : ClassId) (h0 : Heap) (n0 : Nat) (Z0 : n0 ≤ h0.size) (F_running_arc0_0 : Fld Z h0 arc0_0 "com/example/arborway/arborway/sim/RunTally$Walk" "running" "[Z" (.ref w_running_arc0_0)) (V_w_running_arc0_0 : Arv Z h0 w_running_arc0_0 k_w_running_arc0_0 .boolean (0 : Int32) [] (.int (0 : Int32))) :
    MetFree l (⟨"com/example/arborway/arborway/sim/RunTally$Walk", "runningCount", "()I"⟩ : MethodName) (head1 (Jvm.Cond.code (⟨"com/example/arborway/arborway/sim/RunTally$Walk", "runningCount", "()I"⟩ : MethodName) prog_76_method_5_code 6 (some .int) :: ws) ({ frames := 0, cells := 0, slots := 0, locals := 0 } : Room)) (fun a U => a = #[(.ref arc0_0)] ∧ Z.Warmed39 U.vm ∧ U.heap = h0) (fun _ _ _ _ _ => True) (fun _ U o U' => ∃ v L, o = .returned v ∧ own_Qrc0 Z arc0_0 w_running_arc0_0 k_w_running_arc0_0 h0 n0 v U'.heap L ∧ FrameEnd U o U' L ({ frames := 0, cells := 0, slots := 0, locals := 0 } : Room).cells ({ frames := 0, cells := 0, slots := 0, locals := 0 } : Room).slots) := by
  refine MetFree.of_bodySF (plainFor_of_name own_pn2) hisR ?_
  intro p e s m args below meth c s₁ Bd hml0 hP hK
  obtain ⟨rfl, hZ, hh⟩ := hP
  have hx := Bd.exec
  have hby := Bd.bytes
  have hml : c.maxLocals = 6 := hml0
  have hown : s.vm.findClass "com/example/arborway/arborway/sim/RunTally$Walk" = some m.cls := findClass_of_methodNamed Bd.named
  have hnm := (name_of_methodNamed Bd.named Bd.method).1
  have X0 : Stand p l e ({ frames := 0, cells := 0, slots := 0, locals := 0 } : Room) s m #[(.ref arc0_0)] below meth c s₁ [] 0 0 := Stand.of_body Bd
  have e0 : s₁.heap = h0 := by rw [← hh, Bd.state]; rfl
  have N0 := Fr.nil n0
  have Zr : h0.size ≤ h0.size := Nat.le_refl _
  have pre0 : ∀ t, Steps p.tables e below (s₁.setTop (mkF m 0 #[.val (.ref arc0_0), .unset, .unset, .unset, .unset, .unset] [])) t → Steps p.tables e below (s₁.setTop (entryFrame m #[(.ref arc0_0)] 6)) t := fun t k => castTop (own_efrc0 m arc0_0) k
  obtain ⟨Tnrc0_1, Xnrc0_1, enrc0_1, stnrc0_1⟩ := getF X0 hx hZ hown (host := "") (Or.inl (own_W hw 35 rfl)) Via.refl e0 F_running_arc0_0 (g := (mkF m 3 #[.val (.ref arc0_0), .val (.int (0 : Int32)), .unset, .unset, .unset, .unset] [(.ref arc0_0)])) rfl rfl (hb hby own_d8_3)
  have Oorc0_2 := V_w_running_arc0_0
  obtain ⟨clorc0_2, Arorc0_2, qorc0_2, Sorc0_2, Norc0_2, Horc0_2, Gorc0_2⟩ := Oorc0_2
  obtain ⟨fs, hr, hrun, hended, hW, hsame⟩ := Xnrc0_1.leave (v := some (.int (0 : Int32))) (fun h => by rw [Bd.returns] at h; cases h)
  refine ⟨_, _, pre0 _ (?_), hrun, hended, _, _, rfl, ?_, ⟨_, rfl⟩, hW, hsame.mono (by decide) (by decide)⟩
  · show Steps p.tables e below (s₁.setTop (mkF m 0 #[.val (.ref arc0_0), .unset, .unset, .unset, .unset, .unset] [])) _
    refine XS.iconst X0.here hx rfl (hb hby own_d8_0) ?_
    refine XS.istoreN X0.here hx rfl (hb hby own_d8_1) rfl (l' := #[.val (.ref arc0_0), .val (.int (0 : Int32)), .unset, .unset, .unset, .unset]) rfl ?_
    refine XS.aloadN X0.here hx rfl (hb hby own_d8_2) rfl rfl ?_
    refine stnrc0_1 _ ?_
    show Steps p.tables e below (Tnrc0_1.setTop (mkF m 6 #[.val (.ref arc0_0), .val (.int (0 : Int32)), .unset, .unset, .unset, .unset] [(.ref w_running_arc0_0)])) _
    refine XS.astoreN Xnrc0_1.here hx rfl (hb hby own_d8_6) rfl rfl (l' := #[.val (.ref arc0_0), .val (.int (0 : Int32)), .val (.ref w_running_arc0_0), .unset, .unset, .unset]) rfl ?_
    refine XS.aloadN Xnrc0_1.here hx rfl (hb hby own_d8_7) rfl rfl ?_
    refine Xnrc0_1.arraylength hx (by rw [enrc0_1]; exact Arorc0_2.1) (State.isArrayOf_alike hZ.alike Arorc0_2.2.1) (g := (mkF m 8 #[.val (.ref arc0_0), .val (.int (0 : Int32)), .val (.ref w_running_arc0_0), .unset, .unset, .unset] [(.ref w_running_arc0_0)])) rfl rfl (hb hby own_d8_8) _ ?_
    rw [len_of Sorc0_2 Norc0_2]
    show Steps p.tables e below (Tnrc0_1.setTop (mkF m 9 #[.val (.ref arc0_0), .val (.int (0 : Int32)), .val (.ref w_running_arc0_0), .unset, .unset, .unset] [(.int (0 : Int32))])) _
    refine XS.istoreN Xnrc0_1.here hx rfl (hb hby own_d8_9) rfl (l' := #[.val (.ref arc0_0), .val (.int (0 : Int32)), .val (.ref w_running_arc0_0), .val (.int (0 : Int32)), .unset, .unset]) rfl ?_
    refine XS.iconst Xnrc0_1.here hx rfl (hb hby own_d8_10) ?_
    refine XS.istore Xnrc0_1.here hx rfl (hb hby own_d8_11) rfl (l' := #[.val (.ref arc0_0), .val (.int (0 : Int32)), .val (.ref w_running_arc0_0), .val (.int (0 : Int32)), .val (.int (0 : Int32)), .unset]) rfl ?_
    refine XS.iload Xnrc0_1.here hx rfl (hb hby own_d8_13) rfl ?_
    refine XS.iloadN Xnrc0_1.here hx rfl (hb hby own_d8_15) rfl ?_
    refine XS.icmpYes Xnrc0_1.here hx rfl (pc0 := 16) (pc' := 39) rfl (hb hby own_d8_16) rfl (XT.ii_ge_t (by decide : ¬ ((0 : Int32) < (0 : Int32)))) (by decide) (by decide) ?_
    refine XS.iloadN Xnrc0_1.here hx rfl (hb hby own_d8_39) rfl ?_
    show Steps p.tables e below (Tnrc0_1.setTop (mkF m 40 #[.val (.ref arc0_0), .val (.int (0 : Int32)), .val (.ref w_running_arc0_0), .val (.int (0 : Int32)), .val (.int (0 : Int32)), .unset] [(.int (0 : Int32))])) _
    exact retI Xnrc0_1 hx Bd.returns (hb hby own_d8_40) hr
  · show own_Qrc0 Z arc0_0 w_running_arc0_0 k_w_running_arc0_0 h0 n0 _ Tnrc0_1.heap _
    rw [enrc0_1]
    exact ⟨rfl, N0, rfl⟩
theorem own_d8_19 : decode prog_76_method_5_code 19 = .ok (.aload_n 2, 1) := by decide +kernel
theorem own_d8_20 : decode prog_76_method_5_code 20 = .ok (.iload 4, 2) := by decide +kernel
theorem own_d8_22 : decode prog_76_method_5_code 22 = .ok (.baload, 1) := by decide +kernel
theorem own_d8_23 : decode prog_76_method_5_code 23 = .ok (.istore 5, 2) := by decide +kernel
theorem own_d8_25 : decode prog_76_method_5_code 25 = .ok (.iload 5, 2) := by decide +kernel
theorem own_d8_27 : decode prog_76_method_5_code 27 = .ok (.ifCond .eq 6, 3) := by decide +kernel
theorem own_d8_30 : decode prog_76_method_5_code 30 = .ok (.iinc 1 1, 3) := by decide +kernel
theorem own_d8_33 : decode prog_76_method_5_code 33 = .ok (.iinc 4 1, 3) := by decide +kernel
theorem own_d8_36 : decode prog_76_method_5_code 36 = .ok (.goto (-23), 3) := by decide +kernel
def own_jrc1_0 (x_w_running_arc1_0_0 : Int32) : Int32 := if x_w_running_arc1_0_0 = (0 : Int32) then (0 : Int32) else (1 : Int32)
def own_rrc1_1 (x_w_running_arc1_0_0 : Int32) : Int32 := (own_jrc1_0 x_w_running_arc1_0_0)
theorem own_efrc1 (m : MethodId) (arc1_0 : Addr) : entryFrame m #[(.ref arc1_0)] 6 = mkF m 0 #[.val (.ref arc1_0), .unset, .unset, .unset, .unset, .unset] [] := by first | (simp [entryFrame, mkF, argsToLocals, Value.category]; done) | rfl
def own_Qrc1 (Z : State) (arc1_0 : Addr) (w_running_arc1_0 : Addr) (k_w_running_arc1_0 : ClassId) (x_w_running_arc1_0_0 : Int32) (h0 : Heap) (n0 : Nat) (v : Option Value) (h : Heap) (L : List Loc) : Prop := v = some (.int (own_rrc1_1 x_w_running_arc1_0_0)) ∧ Fr n0 L ∧ h = h0
set_option maxRecDepth 65536 in
set_option maxHeartbeats 40000000 in
theorem own_rmrc1 (l : Launch) (Z : State) (a0 : Array Value) (hw : ∀ d ∈ tables_1, d.before a0 Z = true) (ws : List Jvm.Cond) (arc1_0 : Addr) (w_running_arc1_0 : Addr) (k_w_running_arc1_0 : ClassId) (x_w_running_arc1_0_0 : Int32) (h0 : Heap) (n0 : Nat) (Z0 : n0 ≤ h0.size) (F_running_arc1_0 : Fld Z h0 arc1_0 "com/example/arborway/arborway/sim/RunTally$Walk" "running" "[Z" (.ref w_running_arc1_0)) (V_w_running_arc1_0 : Arv Z h0 w_running_arc1_0 k_w_running_arc1_0 .boolean (1 : Int32) [(.int x_w_running_arc1_0_0)] (.int (0 : Int32))) :
    MetFree l (⟨"com/example/arborway/arborway/sim/RunTally$Walk", "runningCount", "()I"⟩ : MethodName) (head1 (Jvm.Cond.code (⟨"com/example/arborway/arborway/sim/RunTally$Walk", "runningCount", "()I"⟩ : MethodName) prog_76_method_5_code 6 (some .int) :: ws) ({ frames := 0, cells := 0, slots := 0, locals := 0 } : Room)) (fun a U => a = #[(.ref arc1_0)] ∧ Z.Warmed39 U.vm ∧ U.heap = h0) (fun _ _ _ _ _ => True) (fun _ U o U' => ∃ v L, o = .returned v ∧ own_Qrc1 Z arc1_0 w_running_arc1_0 k_w_running_arc1_0 x_w_running_arc1_0_0 h0 n0 v U'.heap L ∧ FrameEnd U o U' L ({ frames := 0, cells := 0, slots := 0, locals := 0 } : Room).cells ({ frames := 0, cells := 0, slots := 0, locals := 0 } : Room).slots) := by
  refine MetFree.of_bodySF (plainFor_of_name own_pn2) hisR ?_
  intro p e s m args below meth c s₁ Bd hml0 hP hK
  obtain ⟨rfl, hZ, hh⟩ := hP
  have hx := Bd.exec
  have hby := Bd.bytes
  have hml : c.maxLocals = 6 := hml0
  have hown : s.vm.findClass "com/example/arborway/arborway/sim/RunTally$Walk" = some m.cls := findClass_of_methodNamed Bd.named
  have hnm := (name_of_methodNamed Bd.named Bd.method).1
  have X0 : Stand p l e ({ frames := 0, cells := 0, slots := 0, locals := 0 } : Room) s m #[(.ref arc1_0)] below meth c s₁ [] 0 0 := Stand.of_body Bd
  have e0 : s₁.heap = h0 := by rw [← hh, Bd.state]; rfl
  have N0 := Fr.nil n0
  have Zr : h0.size ≤ h0.size := Nat.le_refl _
  have pre0 : ∀ t, Steps p.tables e below (s₁.setTop (mkF m 0 #[.val (.ref arc1_0), .unset, .unset, .unset, .unset, .unset] [])) t → Steps p.tables e below (s₁.setTop (entryFrame m #[(.ref arc1_0)] 6)) t := fun t k => castTop (own_efrc1 m arc1_0) k
  obtain ⟨Tnrc1_1, Xnrc1_1, enrc1_1, stnrc1_1⟩ := getF X0 hx hZ hown (host := "") (Or.inl (own_W hw 35 rfl)) Via.refl e0 F_running_arc1_0 (g := (mkF m 3 #[.val (.ref arc1_0), .val (.int (0 : Int32)), .unset, .unset, .unset, .unset] [(.ref arc1_0)])) rfl rfl (hb hby own_d8_3)
  have Oorc1_2 := V_w_running_arc1_0
  obtain ⟨clorc1_2, Arorc1_2, qorc1_2, Sorc1_2, Norc1_2, Horc1_2, Gorc1_2⟩ := Oorc1_2
  have Oorc1_3 := V_w_running_arc1_0
  obtain ⟨clorc1_3, Arorc1_3, qorc1_3, Sorc1_3, Norc1_3, Horc1_3, Gorc1_3⟩ := Oorc1_3
  have hinorc1_3 : ¬ ((0 : Int32) < 0 ∨ clorc1_3.slots.size ≤ ((0 : Int32)).toNatClampNeg) := inb_of Sorc1_3 ⟨by decide, by decide⟩
  have hatorc1_3 : clorc1_3.slots[((0 : Int32)).toNatClampNeg]? = some (.int x_w_running_arc1_0_0) := Horc1_3.at hinorc1_3 rfl
  obtain ⟨Tjrc1_4, ljrc1_4, Xjrc1_4, Njrc1_4, ejrc1_4, stjrc1_4⟩ : ∃ (T' : State) (l' : List Loc), Stand p l e ({ frames := 0, cells := 0, slots := 0, locals := 0 } : Room) s m #[(.ref arc1_0)] below meth c T' l' 0 0 ∧ Fr n0 l' ∧ T'.heap = h0 ∧ ∀ target, Steps p.tables e below (T'.setTop (mkF m 33 #[.val (.ref arc1_0), .val (.int (own_jrc1_0 x_w_running_arc1_0_0)), .val (.ref w_running_arc1_0), .val (.int (1 : Int32)), .val (.int (0 : Int32)), .val (.int x_w_running_arc1_0_0)] [])) target → Steps p.tables e below (Tnrc1_1.setTop (mkF m 27 #[.val (.ref arc1_0), .val (.int (0 : Int32)), .val (.ref w_running_arc1_0), .val (.int (1 : Int32)), .val (.int (0 : Int32)), .val (.int x_w_running_arc1_0_0)] [(.int x_w_running_arc1_0_0)])) target := by
    by_cases hjrc1_4 : x_w_running_arc1_0_0 = (0 : Int32)
    · refine ⟨_, _, Xnrc1_1, N0, enrc1_1, fun target kt => ?_⟩
      rw [(show (own_jrc1_0 x_w_running_arc1_0_0) = (0 : Int32) from if_pos hjrc1_4)] at kt
      show Steps p.tables e below (Tnrc1_1.setTop (mkF m 27 #[.val (.ref arc1_0), .val (.int (0 : Int32)), .val (.ref w_running_arc1_0), .val (.int (1 : Int32)), .val (.int (0 : Int32)), .val (.int x_w_running_arc1_0_0)] [(.int x_w_running_arc1_0_0)])) _
      refine XS.ifYes Xnrc1_1.here hx rfl (pc0 := 27) (pc' := 33) rfl (hb hby own_d8_27) rfl (XT.i0_eq_t hjrc1_4) (by decide) (by decide) ?_
      exact kt
    · refine ⟨_, _, Xnrc1_1, N0, enrc1_1, fun target kt => ?_⟩
      rw [(show (own_jrc1_0 x_w_running_arc1_0_0) = (1 : Int32) from if_neg hjrc1_4)] at kt
      show Steps p.tables e below (Tnrc1_1.setTop (mkF m 27 #[.val (.ref arc1_0), .val (.int (0 : Int32)), .val (.ref w_running_arc1_0), .val (.int (1 : Int32)), .val (.int (0 : Int32)), .val (.int x_w_running_arc1_0_0)] [(.int x_w_running_arc1_0_0)])) _
      refine XS.ifNo Xnrc1_1.here hx rfl (hb hby own_d8_27) rfl (XT.i0_eq_f hjrc1_4) ?_
      refine XS.iinc Xnrc1_1.here hx rfl (hb hby own_d8_30) rfl (l' := #[.val (.ref arc1_0), .val (.int (1 : Int32)), .val (.ref w_running_arc1_0), .val (.int (1 : Int32)), .val (.int (0 : Int32)), .val (.int x_w_running_arc1_0_0)]) rfl ?_
      exact kt
  obtain ⟨fs, hr, hrun, hended, hW, hsame⟩ := Xjrc1_4.leave (v := some (.int (own_jrc1_0 x_w_running_arc1_0_0))) (fun h => by rw [Bd.returns] at h; cases h)
  refine ⟨_, _, pre0 _ (?_), hrun, hended, _, _, rfl, ?_, ⟨_, rfl⟩, hW, hsame.mono (by decide) (by decide)⟩
  · show Steps p.tables e below (s₁.setTop (mkF m 0 #[.val (.ref arc1_0), .unset, .unset, .unset, .unset, .unset] [])) _
    refine XS.iconst X0.here hx rfl (hb hby own_d8_0) ?_
    refine XS.istoreN X0.here hx rfl (hb hby own_d8_1) rfl (l' := #[.val (.ref arc1_0), .val (.int (0 : Int32)), .unset, .unset, .unset, .unset]) rfl ?_
    refine XS.aloadN X0.here hx rfl (hb hby own_d8_2) rfl rfl ?_
    refine stnrc1_1 _ ?_
    show Steps p.tables e below (Tnrc1_1.setTop (mkF m 6 #[.val (.ref arc1_0), .val (.int (0 : Int32)), .unset, .unset, .unset, .unset] [(.ref w_running_arc1_0)])) _
    refine XS.astoreN Xnrc1_1.here hx rfl (hb hby own_d8_6) rfl rfl (l' := #[.val (.ref arc1_0), .val (.int (0 : Int32)), .val (.ref w_running_arc1_0), .unset, .unset, .unset]) rfl ?_
    refine XS.aloadN Xnrc1_1.here hx rfl (hb hby own_d8_7) rfl rfl ?_
    refine Xnrc1_1.arraylength hx (by rw [enrc1_1]; exact Arorc1_2.1) (State.isArrayOf_alike hZ.alike Arorc1_2.2.1) (g := (mkF m 8 #[.val (.ref arc1_0), .val (.int (0 : Int32)), .val (.ref w_running_arc1_0), .unset, .unset, .unset] [(.ref w_running_arc1_0)])) rfl rfl (hb hby own_d8_8) _ ?_
    rw [len_of Sorc1_2 Norc1_2]
    show Steps p.tables e below (Tnrc1_1.setTop (mkF m 9 #[.val (.ref arc1_0), .val (.int (0 : Int32)), .val (.ref w_running_arc1_0), .unset, .unset, .unset] [(.int (1 : Int32))])) _
    refine XS.istoreN Xnrc1_1.here hx rfl (hb hby own_d8_9) rfl (l' := #[.val (.ref arc1_0), .val (.int (0 : Int32)), .val (.ref w_running_arc1_0), .val (.int (1 : Int32)), .unset, .unset]) rfl ?_
    refine XS.iconst Xnrc1_1.here hx rfl (hb hby own_d8_10) ?_
    refine XS.istore Xnrc1_1.here hx rfl (hb hby own_d8_11) rfl (l' := #[.val (.ref arc1_0), .val (.int (0 : Int32)), .val (.ref w_running_arc1_0), .val (.int (1 : Int32)), .val (.int (0 : Int32)), .unset]) rfl ?_
    refine XS.iload Xnrc1_1.here hx rfl (hb hby own_d8_13) rfl ?_
    refine XS.iloadN Xnrc1_1.here hx rfl (hb hby own_d8_15) rfl ?_
    refine XS.icmpNo Xnrc1_1.here hx rfl (hb hby own_d8_16) rfl (XT.ii_ge_f (by decide : (0 : Int32) < (1 : Int32))) ?_
    refine XS.aloadN Xnrc1_1.here hx rfl (hb hby own_d8_19) rfl rfl ?_
    refine XS.iload Xnrc1_1.here hx rfl (hb hby own_d8_20) rfl ?_
    refine Xnrc1_1.baloadBooleans hx (j := (0 : Int32)) (v := (.int x_w_running_arc1_0_0)) (by rw [enrc1_1]; exact Arorc1_3.1) (State.isArrayOf_alike hZ.alike Arorc1_3.2.1) Arorc1_3.2.2 hinorc1_3 hatorc1_3 (g := (mkF m 22 #[.val (.ref arc1_0), .val (.int (0 : Int32)), .val (.ref w_running_arc1_0), .val (.int (1 : Int32)), .val (.int (0 : Int32)), .unset] [(.int (0 : Int32)), (.ref w_running_arc1_0)])) rfl rfl (hb hby own_d8_22) _ ?_
    show Steps p.tables e below (Tnrc1_1.setTop (mkF m 23 #[.val (.ref arc1_0), .val (.int (0 : Int32)), .val (.ref w_running_arc1_0), .val (.int (1 : Int32)), .val (.int (0 : Int32)), .unset] [(.int x_w_running_arc1_0_0)])) _
    refine XS.istore Xnrc1_1.here hx rfl (hb hby own_d8_23) rfl (l' := #[.val (.ref arc1_0), .val (.int (0 : Int32)), .val (.ref w_running_arc1_0), .val (.int (1 : Int32)), .val (.int (0 : Int32)), .val (.int x_w_running_arc1_0_0)]) rfl ?_
    refine XS.iload Xnrc1_1.here hx rfl (hb hby own_d8_25) rfl ?_
    refine stjrc1_4 _ ?_
    show Steps p.tables e below (Tjrc1_4.setTop (mkF m 33 #[.val (.ref arc1_0), .val (.int (own_jrc1_0 x_w_running_arc1_0_0)), .val (.ref w_running_arc1_0), .val (.int (1 : Int32)), .val (.int (0 : Int32)), .val (.int x_w_running_arc1_0_0)] [])) _
    refine XS.iinc Xjrc1_4.here hx rfl (hb hby own_d8_33) rfl (l' := #[.val (.ref arc1_0), .val (.int (own_jrc1_0 x_w_running_arc1_0_0)), .val (.ref w_running_arc1_0), .val (.int (1 : Int32)), .val (.int (1 : Int32)), .val (.int x_w_running_arc1_0_0)]) rfl ?_
    refine XS.goto Xjrc1_4.here hx rfl (pc0 := 36) (pc' := 13) rfl (hb hby own_d8_36) (by decide) (by decide) ?_
    refine XS.iload Xjrc1_4.here hx rfl (hb hby own_d8_13) rfl ?_
    refine XS.iloadN Xjrc1_4.here hx rfl (hb hby own_d8_15) rfl ?_
    refine XS.icmpYes Xjrc1_4.here hx rfl (pc0 := 16) (pc' := 39) rfl (hb hby own_d8_16) rfl (XT.ii_ge_t (by decide : ¬ ((1 : Int32) < (1 : Int32)))) (by decide) (by decide) ?_
    refine XS.iloadN Xjrc1_4.here hx rfl (hb hby own_d8_39) rfl ?_
    show Steps p.tables e below (Tjrc1_4.setTop (mkF m 40 #[.val (.ref arc1_0), .val (.int (own_jrc1_0 x_w_running_arc1_0_0)), .val (.ref w_running_arc1_0), .val (.int (1 : Int32)), .val (.int (1 : Int32)), .val (.int x_w_running_arc1_0_0)] [(.int (own_jrc1_0 x_w_running_arc1_0_0))])) _
    exact retI Xjrc1_4 hx Bd.returns (hb hby own_d8_40) hr
  · show own_Qrc1 Z arc1_0 w_running_arc1_0 k_w_running_arc1_0 x_w_running_arc1_0_0 h0 n0 _ Tjrc1_4.heap _
    rw [ejrc1_4]
    exact ⟨rfl, Njrc1_4, rfl⟩
def own_jrc2_0 (x_w_running_arc2_0_0 : Int32) : Int32 := if x_w_running_arc2_0_0 = (0 : Int32) then (0 : Int32) else (1 : Int32)
def own_jrc2_1 (x_w_running_arc2_0_0 : Int32) (x_w_running_arc2_0_1 : Int32) : Int32 := if x_w_running_arc2_0_1 = (0 : Int32) then (own_jrc2_0 x_w_running_arc2_0_0) else ((own_jrc2_0 x_w_running_arc2_0_0) + (1 : Int32))
def own_rrc2_2 (x_w_running_arc2_0_0 : Int32) (x_w_running_arc2_0_1 : Int32) : Int32 := (own_jrc2_1 x_w_running_arc2_0_0 x_w_running_arc2_0_1)
theorem own_efrc2 (m : MethodId) (arc2_0 : Addr) : entryFrame m #[(.ref arc2_0)] 6 = mkF m 0 #[.val (.ref arc2_0), .unset, .unset, .unset, .unset, .unset] [] := by first | (simp [entryFrame, mkF, argsToLocals, Value.category]; done) | rfl
def own_Qrc2 (Z : State) (arc2_0 : Addr) (w_running_arc2_0 : Addr) (k_w_running_arc2_0 : ClassId) (x_w_running_arc2_0_0 : Int32) (x_w_running_arc2_0_1 : Int32) (h0 : Heap) (n0 : Nat) (v : Option Value) (h : Heap) (L : List Loc) : Prop := v = some (.int (own_rrc2_2 x_w_running_arc2_0_0 x_w_running_arc2_0_1)) ∧ Fr n0 L ∧ h = h0
set_option maxRecDepth 65536 in
set_option maxHeartbeats 40000000 in
theorem own_rmrc2 (l : Launch) (Z : State) (a0 : Array Value) (hw : ∀ d ∈ tables_1, d.before a0 Z = true) (ws : List Jvm.Cond) (arc2_0 : Addr) (w_running_arc2_0 : Addr) (k_w_running_arc2_0 : ClassId) (x_w_running_arc2_0_0 : Int32) (x_w_running_arc2_0_1 : Int32) (h0 : Heap) (n0 : Nat) (Z0 : n0 ≤ h0.size) (F_running_arc2_0 : Fld Z h0 arc2_0 "com/example/arborway/arborway/sim/RunTally$Walk" "running" "[Z" (.ref w_running_arc2_0)) (V_w_running_arc2_0 : Arv Z h0 w_running_arc2_0 k_w_running_arc2_0 .boolean (2 : Int32) [(.int x_w_running_arc2_0_0), (.int x_w_running_arc2_0_1)] (.int (0 : Int32))) :
    MetFree l (⟨"com/example/arborway/arborway/sim/RunTally$Walk", "runningCount", "()I"⟩ : MethodName) (head1 (Jvm.Cond.code (⟨"com/example/arborway/arborway/sim/RunTally$Walk", "runningCount", "()I"⟩ : MethodName) prog_76_method_5_code 6 (some .int) :: ws) ({ frames := 0, cells := 0, slots := 0, locals := 0 } : Room)) (fun a U => a = #[(.ref arc2_0)] ∧ Z.Warmed39 U.vm ∧ U.heap = h0) (fun _ _ _ _ _ => True) (fun _ U o U' => ∃ v L, o = .returned v ∧ own_Qrc2 Z arc2_0 w_running_arc2_0 k_w_running_arc2_0 x_w_running_arc2_0_0 x_w_running_arc2_0_1 h0 n0 v U'.heap L ∧ FrameEnd U o U' L ({ frames := 0, cells := 0, slots := 0, locals := 0 } : Room).cells ({ frames := 0, cells := 0, slots := 0, locals := 0 } : Room).slots) := by
  refine MetFree.of_bodySF (plainFor_of_name own_pn2) hisR ?_
  intro p e s m args below meth c s₁ Bd hml0 hP hK
  obtain ⟨rfl, hZ, hh⟩ := hP
  have hx := Bd.exec
  have hby := Bd.bytes
  have hml : c.maxLocals = 6 := hml0
  have hown : s.vm.findClass "com/example/arborway/arborway/sim/RunTally$Walk" = some m.cls := findClass_of_methodNamed Bd.named
  have hnm := (name_of_methodNamed Bd.named Bd.method).1
  have X0 : Stand p l e ({ frames := 0, cells := 0, slots := 0, locals := 0 } : Room) s m #[(.ref arc2_0)] below meth c s₁ [] 0 0 := Stand.of_body Bd
  have e0 : s₁.heap = h0 := by rw [← hh, Bd.state]; rfl
  have N0 := Fr.nil n0
  have Zr : h0.size ≤ h0.size := Nat.le_refl _
  have pre0 : ∀ t, Steps p.tables e below (s₁.setTop (mkF m 0 #[.val (.ref arc2_0), .unset, .unset, .unset, .unset, .unset] [])) t → Steps p.tables e below (s₁.setTop (entryFrame m #[(.ref arc2_0)] 6)) t := fun t k => castTop (own_efrc2 m arc2_0) k
  obtain ⟨Tnrc2_1, Xnrc2_1, enrc2_1, stnrc2_1⟩ := getF X0 hx hZ hown (host := "") (Or.inl (own_W hw 35 rfl)) Via.refl e0 F_running_arc2_0 (g := (mkF m 3 #[.val (.ref arc2_0), .val (.int (0 : Int32)), .unset, .unset, .unset, .unset] [(.ref arc2_0)])) rfl rfl (hb hby own_d8_3)
  have Oorc2_2 := V_w_running_arc2_0
  obtain ⟨clorc2_2, Arorc2_2, qorc2_2, Sorc2_2, Norc2_2, Horc2_2, Gorc2_2⟩ := Oorc2_2
  have Oorc2_3 := V_w_running_arc2_0
  obtain ⟨clorc2_3, Arorc2_3, qorc2_3, Sorc2_3, Norc2_3, Horc2_3, Gorc2_3⟩ := Oorc2_3
  have hinorc2_3 : ¬ ((0 : Int32) < 0 ∨ clorc2_3.slots.size ≤ ((0 : Int32)).toNatClampNeg) := inb_of Sorc2_3 ⟨by decide, by decide⟩
  have hatorc2_3 : clorc2_3.slots[((0 : Int32)).toNatClampNeg]? = some (.int x_w_running_arc2_0_0) := Horc2_3.at hinorc2_3 rfl
  obtain ⟨Tjrc2_4, ljrc2_4, Xjrc2_4, Njrc2_4, ejrc2_4, stjrc2_4⟩ : ∃ (T' : State) (l' : List Loc), Stand p l e ({ frames := 0, cells := 0, slots := 0, locals := 0 } : Room) s m #[(.ref arc2_0)] below meth c T' l' 0 0 ∧ Fr n0 l' ∧ T'.heap = h0 ∧ ∀ target, Steps p.tables e below (T'.setTop (mkF m 33 #[.val (.ref arc2_0), .val (.int (own_jrc2_0 x_w_running_arc2_0_0)), .val (.ref w_running_arc2_0), .val (.int (2 : Int32)), .val (.int (0 : Int32)), .val (.int x_w_running_arc2_0_0)] [])) target → Steps p.tables e below (Tnrc2_1.setTop (mkF m 27 #[.val (.ref arc2_0), .val (.int (0 : Int32)), .val (.ref w_running_arc2_0), .val (.int (2 : Int32)), .val (.int (0 : Int32)), .val (.int x_w_running_arc2_0_0)] [(.int x_w_running_arc2_0_0)])) target := by
    by_cases hjrc2_4 : x_w_running_arc2_0_0 = (0 : Int32)
    · refine ⟨_, _, Xnrc2_1, N0, enrc2_1, fun target kt => ?_⟩
      rw [(show (own_jrc2_0 x_w_running_arc2_0_0) = (0 : Int32) from if_pos hjrc2_4)] at kt
      show Steps p.tables e below (Tnrc2_1.setTop (mkF m 27 #[.val (.ref arc2_0), .val (.int (0 : Int32)), .val (.ref w_running_arc2_0), .val (.int (2 : Int32)), .val (.int (0 : Int32)), .val (.int x_w_running_arc2_0_0)] [(.int x_w_running_arc2_0_0)])) _
      refine XS.ifYes Xnrc2_1.here hx rfl (pc0 := 27) (pc' := 33) rfl (hb hby own_d8_27) rfl (XT.i0_eq_t hjrc2_4) (by decide) (by decide) ?_
      exact kt
    · refine ⟨_, _, Xnrc2_1, N0, enrc2_1, fun target kt => ?_⟩
      rw [(show (own_jrc2_0 x_w_running_arc2_0_0) = (1 : Int32) from if_neg hjrc2_4)] at kt
      show Steps p.tables e below (Tnrc2_1.setTop (mkF m 27 #[.val (.ref arc2_0), .val (.int (0 : Int32)), .val (.ref w_running_arc2_0), .val (.int (2 : Int32)), .val (.int (0 : Int32)), .val (.int x_w_running_arc2_0_0)] [(.int x_w_running_arc2_0_0)])) _
      refine XS.ifNo Xnrc2_1.here hx rfl (hb hby own_d8_27) rfl (XT.i0_eq_f hjrc2_4) ?_
      refine XS.iinc Xnrc2_1.here hx rfl (hb hby own_d8_30) rfl (l' := #[.val (.ref arc2_0), .val (.int (1 : Int32)), .val (.ref w_running_arc2_0), .val (.int (2 : Int32)), .val (.int (0 : Int32)), .val (.int x_w_running_arc2_0_0)]) rfl ?_
      exact kt
  have Oorc2_5 := V_w_running_arc2_0
  obtain ⟨clorc2_5, Arorc2_5, qorc2_5, Sorc2_5, Norc2_5, Horc2_5, Gorc2_5⟩ := Oorc2_5
  have hinorc2_5 : ¬ ((1 : Int32) < 0 ∨ clorc2_5.slots.size ≤ ((1 : Int32)).toNatClampNeg) := inb_of Sorc2_5 ⟨by decide, by decide⟩
  have hatorc2_5 : clorc2_5.slots[((1 : Int32)).toNatClampNeg]? = some (.int x_w_running_arc2_0_1) := Horc2_5.at hinorc2_5 rfl
  obtain ⟨Tjrc2_6, ljrc2_6, Xjrc2_6, Njrc2_6, ejrc2_6, stjrc2_6⟩ : ∃ (T' : State) (l' : List Loc), Stand p l e ({ frames := 0, cells := 0, slots := 0, locals := 0 } : Room) s m #[(.ref arc2_0)] below meth c T' l' 0 0 ∧ Fr n0 l' ∧ T'.heap = h0 ∧ ∀ target, Steps p.tables e below (T'.setTop (mkF m 33 #[.val (.ref arc2_0), .val (.int (own_jrc2_1 x_w_running_arc2_0_0 x_w_running_arc2_0_1)), .val (.ref w_running_arc2_0), .val (.int (2 : Int32)), .val (.int (1 : Int32)), .val (.int x_w_running_arc2_0_1)] [])) target → Steps p.tables e below (Tjrc2_4.setTop (mkF m 27 #[.val (.ref arc2_0), .val (.int (own_jrc2_0 x_w_running_arc2_0_0)), .val (.ref w_running_arc2_0), .val (.int (2 : Int32)), .val (.int (1 : Int32)), .val (.int x_w_running_arc2_0_1)] [(.int x_w_running_arc2_0_1)])) target := by
    by_cases hjrc2_6 : x_w_running_arc2_0_1 = (0 : Int32)
    · refine ⟨_, _, Xjrc2_4, Njrc2_4, ejrc2_4, fun target kt => ?_⟩
      rw [(show (own_jrc2_1 x_w_running_arc2_0_0 x_w_running_arc2_0_1) = (own_jrc2_0 x_w_running_arc2_0_0) from if_pos hjrc2_6)] at kt
      show Steps p.tables e below (Tjrc2_4.setTop (mkF m 27 #[.val (.ref arc2_0), .val (.int (own_jrc2_0 x_w_running_arc2_0_0)), .val (.ref w_running_arc2_0), .val (.int (2 : Int32)), .val (.int (1 : Int32)), .val (.int x_w_running_arc2_0_1)] [(.int x_w_running_arc2_0_1)])) _
      refine XS.ifYes Xjrc2_4.here hx rfl (pc0 := 27) (pc' := 33) rfl (hb hby own_d8_27) rfl (XT.i0_eq_t hjrc2_6) (by decide) (by decide) ?_
      exact kt
    · refine ⟨_, _, Xjrc2_4, Njrc2_4, ejrc2_4, fun target kt => ?_⟩
      rw [(show (own_jrc2_1 x_w_running_arc2_0_0 x_w_running_arc2_0_1) = ((own_jrc2_0 x_w_running_arc2_0_0) + (1 : Int32)) from if_neg hjrc2_6)] at kt
      show Steps p.tables e below (Tjrc2_4.setTop (mkF m 27 #[.val (.ref arc2_0), .val (.int (own_jrc2_0 x_w_running_arc2_0_0)), .val (.ref w_running_arc2_0), .val (.int (2 : Int32)), .val (.int (1 : Int32)), .val (.int x_w_running_arc2_0_1)] [(.int x_w_running_arc2_0_1)])) _
      refine XS.ifNo Xjrc2_4.here hx rfl (hb hby own_d8_27) rfl (XT.i0_eq_f hjrc2_6) ?_
      refine XS.iinc Xjrc2_4.here hx rfl (hb hby own_d8_30) rfl (l' := #[.val (.ref arc2_0), .val (.int ((own_jrc2_0 x_w_running_arc2_0_0) + (1 : Int32))), .val (.ref w_running_arc2_0), .val (.int (2 : Int32)), .val (.int (1 : Int32)), .val (.int x_w_running_arc2_0_1)]) rfl ?_
      exact kt
  obtain ⟨fs, hr, hrun, hended, hW, hsame⟩ := Xjrc2_6.leave (v := some (.int (own_jrc2_1 x_w_running_arc2_0_0 x_w_running_arc2_0_1))) (fun h => by rw [Bd.returns] at h; cases h)
  refine ⟨_, _, pre0 _ (?_), hrun, hended, _, _, rfl, ?_, ⟨_, rfl⟩, hW, hsame.mono (by decide) (by decide)⟩
  · show Steps p.tables e below (s₁.setTop (mkF m 0 #[.val (.ref arc2_0), .unset, .unset, .unset, .unset, .unset] [])) _
    refine XS.iconst X0.here hx rfl (hb hby own_d8_0) ?_
    refine XS.istoreN X0.here hx rfl (hb hby own_d8_1) rfl (l' := #[.val (.ref arc2_0), .val (.int (0 : Int32)), .unset, .unset, .unset, .unset]) rfl ?_
    refine XS.aloadN X0.here hx rfl (hb hby own_d8_2) rfl rfl ?_
    refine stnrc2_1 _ ?_
    show Steps p.tables e below (Tnrc2_1.setTop (mkF m 6 #[.val (.ref arc2_0), .val (.int (0 : Int32)), .unset, .unset, .unset, .unset] [(.ref w_running_arc2_0)])) _
    refine XS.astoreN Xnrc2_1.here hx rfl (hb hby own_d8_6) rfl rfl (l' := #[.val (.ref arc2_0), .val (.int (0 : Int32)), .val (.ref w_running_arc2_0), .unset, .unset, .unset]) rfl ?_
    refine XS.aloadN Xnrc2_1.here hx rfl (hb hby own_d8_7) rfl rfl ?_
    refine Xnrc2_1.arraylength hx (by rw [enrc2_1]; exact Arorc2_2.1) (State.isArrayOf_alike hZ.alike Arorc2_2.2.1) (g := (mkF m 8 #[.val (.ref arc2_0), .val (.int (0 : Int32)), .val (.ref w_running_arc2_0), .unset, .unset, .unset] [(.ref w_running_arc2_0)])) rfl rfl (hb hby own_d8_8) _ ?_
    rw [len_of Sorc2_2 Norc2_2]
    show Steps p.tables e below (Tnrc2_1.setTop (mkF m 9 #[.val (.ref arc2_0), .val (.int (0 : Int32)), .val (.ref w_running_arc2_0), .unset, .unset, .unset] [(.int (2 : Int32))])) _
    refine XS.istoreN Xnrc2_1.here hx rfl (hb hby own_d8_9) rfl (l' := #[.val (.ref arc2_0), .val (.int (0 : Int32)), .val (.ref w_running_arc2_0), .val (.int (2 : Int32)), .unset, .unset]) rfl ?_
    refine XS.iconst Xnrc2_1.here hx rfl (hb hby own_d8_10) ?_
    refine XS.istore Xnrc2_1.here hx rfl (hb hby own_d8_11) rfl (l' := #[.val (.ref arc2_0), .val (.int (0 : Int32)), .val (.ref w_running_arc2_0), .val (.int (2 : Int32)), .val (.int (0 : Int32)), .unset]) rfl ?_
    refine XS.iload Xnrc2_1.here hx rfl (hb hby own_d8_13) rfl ?_
    refine XS.iloadN Xnrc2_1.here hx rfl (hb hby own_d8_15) rfl ?_
    refine XS.icmpNo Xnrc2_1.here hx rfl (hb hby own_d8_16) rfl (XT.ii_ge_f (by decide : (0 : Int32) < (2 : Int32))) ?_
    refine XS.aloadN Xnrc2_1.here hx rfl (hb hby own_d8_19) rfl rfl ?_
    refine XS.iload Xnrc2_1.here hx rfl (hb hby own_d8_20) rfl ?_
    refine Xnrc2_1.baloadBooleans hx (j := (0 : Int32)) (v := (.int x_w_running_arc2_0_0)) (by rw [enrc2_1]; exact Arorc2_3.1) (State.isArrayOf_alike hZ.alike Arorc2_3.2.1) Arorc2_3.2.2 hinorc2_3 hatorc2_3 (g := (mkF m 22 #[.val (.ref arc2_0), .val (.int (0 : Int32)), .val (.ref w_running_arc2_0), .val (.int (2 : Int32)), .val (.int (0 : Int32)), .unset] [(.int (0 : Int32)), (.ref w_running_arc2_0)])) rfl rfl (hb hby own_d8_22) _ ?_
    show Steps p.tables e below (Tnrc2_1.setTop (mkF m 23 #[.val (.ref arc2_0), .val (.int (0 : Int32)), .val (.ref w_running_arc2_0), .val (.int (2 : Int32)), .val (.int (0 : Int32)), .unset] [(.int x_w_running_arc2_0_0)])) _
    refine XS.istore Xnrc2_1.here hx rfl (hb hby own_d8_23) rfl (l' := #[.val (.ref arc2_0), .val (.int (0 : Int32)), .val (.ref w_running_arc2_0), .val (.int (2 : Int32)), .val (.int (0 : Int32)), .val (.int x_w_running_arc2_0_0)]) rfl ?_
    refine XS.iload Xnrc2_1.here hx rfl (hb hby own_d8_25) rfl ?_
    refine stjrc2_4 _ ?_
    show Steps p.tables e below (Tjrc2_4.setTop (mkF m 33 #[.val (.ref arc2_0), .val (.int (own_jrc2_0 x_w_running_arc2_0_0)), .val (.ref w_running_arc2_0), .val (.int (2 : Int32)), .val (.int (0 : Int32)), .val (.int x_w_running_arc2_0_0)] [])) _
    refine XS.iinc Xjrc2_4.here hx rfl (hb hby own_d8_33) rfl (l' := #[.val (.ref arc2_0), .val (.int (own_jrc2_0 x_w_running_arc2_0_0)), .val (.ref w_running_arc2_0), .val (.int (2 : Int32)), .val (.int (1 : Int32)), .val (.int x_w_running_arc2_0_0)]) rfl ?_
    refine XS.goto Xjrc2_4.here hx rfl (pc0 := 36) (pc' := 13) rfl (hb hby own_d8_36) (by decide) (by decide) ?_
    refine XS.iload Xjrc2_4.here hx rfl (hb hby own_d8_13) rfl ?_
    refine XS.iloadN Xjrc2_4.here hx rfl (hb hby own_d8_15) rfl ?_
    refine XS.icmpNo Xjrc2_4.here hx rfl (hb hby own_d8_16) rfl (XT.ii_ge_f (by decide : (1 : Int32) < (2 : Int32))) ?_
    refine XS.aloadN Xjrc2_4.here hx rfl (hb hby own_d8_19) rfl rfl ?_
    refine XS.iload Xjrc2_4.here hx rfl (hb hby own_d8_20) rfl ?_
    refine Xjrc2_4.baloadBooleans hx (j := (1 : Int32)) (v := (.int x_w_running_arc2_0_1)) (by rw [ejrc2_4]; exact Arorc2_5.1) (State.isArrayOf_alike hZ.alike Arorc2_5.2.1) Arorc2_5.2.2 hinorc2_5 hatorc2_5 (g := (mkF m 22 #[.val (.ref arc2_0), .val (.int (own_jrc2_0 x_w_running_arc2_0_0)), .val (.ref w_running_arc2_0), .val (.int (2 : Int32)), .val (.int (1 : Int32)), .val (.int x_w_running_arc2_0_0)] [(.int (1 : Int32)), (.ref w_running_arc2_0)])) rfl rfl (hb hby own_d8_22) _ ?_
    show Steps p.tables e below (Tjrc2_4.setTop (mkF m 23 #[.val (.ref arc2_0), .val (.int (own_jrc2_0 x_w_running_arc2_0_0)), .val (.ref w_running_arc2_0), .val (.int (2 : Int32)), .val (.int (1 : Int32)), .val (.int x_w_running_arc2_0_0)] [(.int x_w_running_arc2_0_1)])) _
    refine XS.istore Xjrc2_4.here hx rfl (hb hby own_d8_23) rfl (l' := #[.val (.ref arc2_0), .val (.int (own_jrc2_0 x_w_running_arc2_0_0)), .val (.ref w_running_arc2_0), .val (.int (2 : Int32)), .val (.int (1 : Int32)), .val (.int x_w_running_arc2_0_1)]) rfl ?_
    refine XS.iload Xjrc2_4.here hx rfl (hb hby own_d8_25) rfl ?_
    refine stjrc2_6 _ ?_
    show Steps p.tables e below (Tjrc2_6.setTop (mkF m 33 #[.val (.ref arc2_0), .val (.int (own_jrc2_1 x_w_running_arc2_0_0 x_w_running_arc2_0_1)), .val (.ref w_running_arc2_0), .val (.int (2 : Int32)), .val (.int (1 : Int32)), .val (.int x_w_running_arc2_0_1)] [])) _
    refine XS.iinc Xjrc2_6.here hx rfl (hb hby own_d8_33) rfl (l' := #[.val (.ref arc2_0), .val (.int (own_jrc2_1 x_w_running_arc2_0_0 x_w_running_arc2_0_1)), .val (.ref w_running_arc2_0), .val (.int (2 : Int32)), .val (.int (2 : Int32)), .val (.int x_w_running_arc2_0_1)]) rfl ?_
    refine XS.goto Xjrc2_6.here hx rfl (pc0 := 36) (pc' := 13) rfl (hb hby own_d8_36) (by decide) (by decide) ?_
    refine XS.iload Xjrc2_6.here hx rfl (hb hby own_d8_13) rfl ?_
    refine XS.iloadN Xjrc2_6.here hx rfl (hb hby own_d8_15) rfl ?_
    refine XS.icmpYes Xjrc2_6.here hx rfl (pc0 := 16) (pc' := 39) rfl (hb hby own_d8_16) rfl (XT.ii_ge_t (by decide : ¬ ((2 : Int32) < (2 : Int32)))) (by decide) (by decide) ?_
    refine XS.iloadN Xjrc2_6.here hx rfl (hb hby own_d8_39) rfl ?_
    show Steps p.tables e below (Tjrc2_6.setTop (mkF m 40 #[.val (.ref arc2_0), .val (.int (own_jrc2_1 x_w_running_arc2_0_0 x_w_running_arc2_0_1)), .val (.ref w_running_arc2_0), .val (.int (2 : Int32)), .val (.int (2 : Int32)), .val (.int x_w_running_arc2_0_1)] [(.int (own_jrc2_1 x_w_running_arc2_0_0 x_w_running_arc2_0_1))])) _
    exact retI Xjrc2_6 hx Bd.returns (hb hby own_d8_40) hr
  · show own_Qrc2 Z arc2_0 w_running_arc2_0 k_w_running_arc2_0 x_w_running_arc2_0_0 x_w_running_arc2_0_1 h0 n0 _ Tjrc2_6.heap _
    rw [ejrc2_6]
    exact ⟨rfl, Njrc2_6, rfl⟩
def own_jrc3_0 (x_w_running_arc3_0_0 : Int32) : Int32 := if x_w_running_arc3_0_0 = (0 : Int32) then (0 : Int32) else (1 : Int32)
def own_jrc3_1 (x_w_running_arc3_0_0 : Int32) (x_w_running_arc3_0_1 : Int32) : Int32 := if x_w_running_arc3_0_1 = (0 : Int32) then (own_jrc3_0 x_w_running_arc3_0_0) else ((own_jrc3_0 x_w_running_arc3_0_0) + (1 : Int32))
def own_jrc3_2 (x_w_running_arc3_0_0 : Int32) (x_w_running_arc3_0_1 : Int32) (x_w_running_arc3_0_2 : Int32) : Int32 := if x_w_running_arc3_0_2 = (0 : Int32) then (own_jrc3_1 x_w_running_arc3_0_0 x_w_running_arc3_0_1) else ((own_jrc3_1 x_w_running_arc3_0_0 x_w_running_arc3_0_1) + (1 : Int32))
def own_rrc3_3 (x_w_running_arc3_0_0 : Int32) (x_w_running_arc3_0_1 : Int32) (x_w_running_arc3_0_2 : Int32) : Int32 := (own_jrc3_2 x_w_running_arc3_0_0 x_w_running_arc3_0_1 x_w_running_arc3_0_2)
theorem own_efrc3 (m : MethodId) (arc3_0 : Addr) : entryFrame m #[(.ref arc3_0)] 6 = mkF m 0 #[.val (.ref arc3_0), .unset, .unset, .unset, .unset, .unset] [] := by first | (simp [entryFrame, mkF, argsToLocals, Value.category]; done) | rfl
def own_Qrc3 (Z : State) (arc3_0 : Addr) (w_running_arc3_0 : Addr) (k_w_running_arc3_0 : ClassId) (x_w_running_arc3_0_0 : Int32) (x_w_running_arc3_0_1 : Int32) (x_w_running_arc3_0_2 : Int32) (h0 : Heap) (n0 : Nat) (v : Option Value) (h : Heap) (L : List Loc) : Prop := v = some (.int (own_rrc3_3 x_w_running_arc3_0_0 x_w_running_arc3_0_1 x_w_running_arc3_0_2)) ∧ Fr n0 L ∧ h = h0
set_option maxRecDepth 65536 in
set_option maxHeartbeats 40000000 in
theorem own_rmrc3 (l : Launch) (Z : State) (a0 : Array Value) (hw : ∀ d ∈ tables_1, d.before a0 Z = true) (ws : List Jvm.Cond) (arc3_0 : Addr) (w_running_arc3_0 : Addr) (k_w_running_arc3_0 : ClassId) (x_w_running_arc3_0_0 : Int32) (x_w_running_arc3_0_1 : Int32) (x_w_running_arc3_0_2 : Int32) (h0 : Heap) (n0 : Nat) (Z0 : n0 ≤ h0.size) (F_running_arc3_0 : Fld Z h0 arc3_0 "com/example/arborway/arborway/sim/RunTally$Walk" "running" "[Z" (.ref w_running_arc3_0)) (V_w_running_arc3_0 : Arv Z h0 w_running_arc3_0 k_w_running_arc3_0 .boolean (3 : Int32) [(.int x_w_running_arc3_0_0), (.int x_w_running_arc3_0_1), (.int x_w_running_arc3_0_2)] (.int (0 : Int32))) :
    MetFree l (⟨"com/example/arborway/arborway/sim/RunTally$Walk", "runningCount", "()I"⟩ : MethodName) (head1 (Jvm.Cond.code (⟨"com/example/arborway/arborway/sim/RunTally$Walk", "runningCount", "()I"⟩ : MethodName) prog_76_method_5_code 6 (some .int) :: ws) ({ frames := 0, cells := 0, slots := 0, locals := 0 } : Room)) (fun a U => a = #[(.ref arc3_0)] ∧ Z.Warmed39 U.vm ∧ U.heap = h0) (fun _ _ _ _ _ => True) (fun _ U o U' => ∃ v L, o = .returned v ∧ own_Qrc3 Z arc3_0 w_running_arc3_0 k_w_running_arc3_0 x_w_running_arc3_0_0 x_w_running_arc3_0_1 x_w_running_arc3_0_2 h0 n0 v U'.heap L ∧ FrameEnd U o U' L ({ frames := 0, cells := 0, slots := 0, locals := 0 } : Room).cells ({ frames := 0, cells := 0, slots := 0, locals := 0 } : Room).slots) := by
  refine MetFree.of_bodySF (plainFor_of_name own_pn2) hisR ?_
  intro p e s m args below meth c s₁ Bd hml0 hP hK
  obtain ⟨rfl, hZ, hh⟩ := hP
  have hx := Bd.exec
  have hby := Bd.bytes
  have hml : c.maxLocals = 6 := hml0
  have hown : s.vm.findClass "com/example/arborway/arborway/sim/RunTally$Walk" = some m.cls := findClass_of_methodNamed Bd.named
  have hnm := (name_of_methodNamed Bd.named Bd.method).1
  have X0 : Stand p l e ({ frames := 0, cells := 0, slots := 0, locals := 0 } : Room) s m #[(.ref arc3_0)] below meth c s₁ [] 0 0 := Stand.of_body Bd
  have e0 : s₁.heap = h0 := by rw [← hh, Bd.state]; rfl
  have N0 := Fr.nil n0
  have Zr : h0.size ≤ h0.size := Nat.le_refl _
  have pre0 : ∀ t, Steps p.tables e below (s₁.setTop (mkF m 0 #[.val (.ref arc3_0), .unset, .unset, .unset, .unset, .unset] [])) t → Steps p.tables e below (s₁.setTop (entryFrame m #[(.ref arc3_0)] 6)) t := fun t k => castTop (own_efrc3 m arc3_0) k
  obtain ⟨Tnrc3_1, Xnrc3_1, enrc3_1, stnrc3_1⟩ := getF X0 hx hZ hown (host := "") (Or.inl (own_W hw 35 rfl)) Via.refl e0 F_running_arc3_0 (g := (mkF m 3 #[.val (.ref arc3_0), .val (.int (0 : Int32)), .unset, .unset, .unset, .unset] [(.ref arc3_0)])) rfl rfl (hb hby own_d8_3)
  have Oorc3_2 := V_w_running_arc3_0
  obtain ⟨clorc3_2, Arorc3_2, qorc3_2, Sorc3_2, Norc3_2, Horc3_2, Gorc3_2⟩ := Oorc3_2
  have Oorc3_3 := V_w_running_arc3_0
  obtain ⟨clorc3_3, Arorc3_3, qorc3_3, Sorc3_3, Norc3_3, Horc3_3, Gorc3_3⟩ := Oorc3_3
  have hinorc3_3 : ¬ ((0 : Int32) < 0 ∨ clorc3_3.slots.size ≤ ((0 : Int32)).toNatClampNeg) := inb_of Sorc3_3 ⟨by decide, by decide⟩
  have hatorc3_3 : clorc3_3.slots[((0 : Int32)).toNatClampNeg]? = some (.int x_w_running_arc3_0_0) := Horc3_3.at hinorc3_3 rfl
  obtain ⟨Tjrc3_4, ljrc3_4, Xjrc3_4, Njrc3_4, ejrc3_4, stjrc3_4⟩ : ∃ (T' : State) (l' : List Loc), Stand p l e ({ frames := 0, cells := 0, slots := 0, locals := 0 } : Room) s m #[(.ref arc3_0)] below meth c T' l' 0 0 ∧ Fr n0 l' ∧ T'.heap = h0 ∧ ∀ target, Steps p.tables e below (T'.setTop (mkF m 33 #[.val (.ref arc3_0), .val (.int (own_jrc3_0 x_w_running_arc3_0_0)), .val (.ref w_running_arc3_0), .val (.int (3 : Int32)), .val (.int (0 : Int32)), .val (.int x_w_running_arc3_0_0)] [])) target → Steps p.tables e below (Tnrc3_1.setTop (mkF m 27 #[.val (.ref arc3_0), .val (.int (0 : Int32)), .val (.ref w_running_arc3_0), .val (.int (3 : Int32)), .val (.int (0 : Int32)), .val (.int x_w_running_arc3_0_0)] [(.int x_w_running_arc3_0_0)])) target := by
    by_cases hjrc3_4 : x_w_running_arc3_0_0 = (0 : Int32)
    · refine ⟨_, _, Xnrc3_1, N0, enrc3_1, fun target kt => ?_⟩
      rw [(show (own_jrc3_0 x_w_running_arc3_0_0) = (0 : Int32) from if_pos hjrc3_4)] at kt
      show Steps p.tables e below (Tnrc3_1.setTop (mkF m 27 #[.val (.ref arc3_0), .val (.int (0 : Int32)), .val (.ref w_running_arc3_0), .val (.int (3 : Int32)), .val (.int (0 : Int32)), .val (.int x_w_running_arc3_0_0)] [(.int x_w_running_arc3_0_0)])) _
      refine XS.ifYes Xnrc3_1.here hx rfl (pc0 := 27) (pc' := 33) rfl (hb hby own_d8_27) rfl (XT.i0_eq_t hjrc3_4) (by decide) (by decide) ?_
      exact kt
    · refine ⟨_, _, Xnrc3_1, N0, enrc3_1, fun target kt => ?_⟩
      rw [(show (own_jrc3_0 x_w_running_arc3_0_0) = (1 : Int32) from if_neg hjrc3_4)] at kt
      show Steps p.tables e below (Tnrc3_1.setTop (mkF m 27 #[.val (.ref arc3_0), .val (.int (0 : Int32)), .val (.ref w_running_arc3_0), .val (.int (3 : Int32)), .val (.int (0 : Int32)), .val (.int x_w_running_arc3_0_0)] [(.int x_w_running_arc3_0_0)])) _
      refine XS.ifNo Xnrc3_1.here hx rfl (hb hby own_d8_27) rfl (XT.i0_eq_f hjrc3_4) ?_
      refine XS.iinc Xnrc3_1.here hx rfl (hb hby own_d8_30) rfl (l' := #[.val (.ref arc3_0), .val (.int (1 : Int32)), .val (.ref w_running_arc3_0), .val (.int (3 : Int32)), .val (.int (0 : Int32)), .val (.int x_w_running_arc3_0_0)]) rfl ?_
      exact kt
  have Oorc3_5 := V_w_running_arc3_0
  obtain ⟨clorc3_5, Arorc3_5, qorc3_5, Sorc3_5, Norc3_5, Horc3_5, Gorc3_5⟩ := Oorc3_5
  have hinorc3_5 : ¬ ((1 : Int32) < 0 ∨ clorc3_5.slots.size ≤ ((1 : Int32)).toNatClampNeg) := inb_of Sorc3_5 ⟨by decide, by decide⟩
  have hatorc3_5 : clorc3_5.slots[((1 : Int32)).toNatClampNeg]? = some (.int x_w_running_arc3_0_1) := Horc3_5.at hinorc3_5 rfl
  obtain ⟨Tjrc3_6, ljrc3_6, Xjrc3_6, Njrc3_6, ejrc3_6, stjrc3_6⟩ : ∃ (T' : State) (l' : List Loc), Stand p l e ({ frames := 0, cells := 0, slots := 0, locals := 0 } : Room) s m #[(.ref arc3_0)] below meth c T' l' 0 0 ∧ Fr n0 l' ∧ T'.heap = h0 ∧ ∀ target, Steps p.tables e below (T'.setTop (mkF m 33 #[.val (.ref arc3_0), .val (.int (own_jrc3_1 x_w_running_arc3_0_0 x_w_running_arc3_0_1)), .val (.ref w_running_arc3_0), .val (.int (3 : Int32)), .val (.int (1 : Int32)), .val (.int x_w_running_arc3_0_1)] [])) target → Steps p.tables e below (Tjrc3_4.setTop (mkF m 27 #[.val (.ref arc3_0), .val (.int (own_jrc3_0 x_w_running_arc3_0_0)), .val (.ref w_running_arc3_0), .val (.int (3 : Int32)), .val (.int (1 : Int32)), .val (.int x_w_running_arc3_0_1)] [(.int x_w_running_arc3_0_1)])) target := by
    by_cases hjrc3_6 : x_w_running_arc3_0_1 = (0 : Int32)
    · refine ⟨_, _, Xjrc3_4, Njrc3_4, ejrc3_4, fun target kt => ?_⟩
      rw [(show (own_jrc3_1 x_w_running_arc3_0_0 x_w_running_arc3_0_1) = (own_jrc3_0 x_w_running_arc3_0_0) from if_pos hjrc3_6)] at kt
      show Steps p.tables e below (Tjrc3_4.setTop (mkF m 27 #[.val (.ref arc3_0), .val (.int (own_jrc3_0 x_w_running_arc3_0_0)), .val (.ref w_running_arc3_0), .val (.int (3 : Int32)), .val (.int (1 : Int32)), .val (.int x_w_running_arc3_0_1)] [(.int x_w_running_arc3_0_1)])) _
      refine XS.ifYes Xjrc3_4.here hx rfl (pc0 := 27) (pc' := 33) rfl (hb hby own_d8_27) rfl (XT.i0_eq_t hjrc3_6) (by decide) (by decide) ?_
      exact kt
    · refine ⟨_, _, Xjrc3_4, Njrc3_4, ejrc3_4, fun target kt => ?_⟩
      rw [(show (own_jrc3_1 x_w_running_arc3_0_0 x_w_running_arc3_0_1) = ((own_jrc3_0 x_w_running_arc3_0_0) + (1 : Int32)) from if_neg hjrc3_6)] at kt
      show Steps p.tables e below (Tjrc3_4.setTop (mkF m 27 #[.val (.ref arc3_0), .val (.int (own_jrc3_0 x_w_running_arc3_0_0)), .val (.ref w_running_arc3_0), .val (.int (3 : Int32)), .val (.int (1 : Int32)), .val (.int x_w_running_arc3_0_1)] [(.int x_w_running_arc3_0_1)])) _
      refine XS.ifNo Xjrc3_4.here hx rfl (hb hby own_d8_27) rfl (XT.i0_eq_f hjrc3_6) ?_
      refine XS.iinc Xjrc3_4.here hx rfl (hb hby own_d8_30) rfl (l' := #[.val (.ref arc3_0), .val (.int ((own_jrc3_0 x_w_running_arc3_0_0) + (1 : Int32))), .val (.ref w_running_arc3_0), .val (.int (3 : Int32)), .val (.int (1 : Int32)), .val (.int x_w_running_arc3_0_1)]) rfl ?_
      exact kt
  have Oorc3_7 := V_w_running_arc3_0
  obtain ⟨clorc3_7, Arorc3_7, qorc3_7, Sorc3_7, Norc3_7, Horc3_7, Gorc3_7⟩ := Oorc3_7
  have hinorc3_7 : ¬ ((2 : Int32) < 0 ∨ clorc3_7.slots.size ≤ ((2 : Int32)).toNatClampNeg) := inb_of Sorc3_7 ⟨by decide, by decide⟩
  have hatorc3_7 : clorc3_7.slots[((2 : Int32)).toNatClampNeg]? = some (.int x_w_running_arc3_0_2) := Horc3_7.at hinorc3_7 rfl
  obtain ⟨Tjrc3_8, ljrc3_8, Xjrc3_8, Njrc3_8, ejrc3_8, stjrc3_8⟩ : ∃ (T' : State) (l' : List Loc), Stand p l e ({ frames := 0, cells := 0, slots := 0, locals := 0 } : Room) s m #[(.ref arc3_0)] below meth c T' l' 0 0 ∧ Fr n0 l' ∧ T'.heap = h0 ∧ ∀ target, Steps p.tables e below (T'.setTop (mkF m 33 #[.val (.ref arc3_0), .val (.int (own_jrc3_2 x_w_running_arc3_0_0 x_w_running_arc3_0_1 x_w_running_arc3_0_2)), .val (.ref w_running_arc3_0), .val (.int (3 : Int32)), .val (.int (2 : Int32)), .val (.int x_w_running_arc3_0_2)] [])) target → Steps p.tables e below (Tjrc3_6.setTop (mkF m 27 #[.val (.ref arc3_0), .val (.int (own_jrc3_1 x_w_running_arc3_0_0 x_w_running_arc3_0_1)), .val (.ref w_running_arc3_0), .val (.int (3 : Int32)), .val (.int (2 : Int32)), .val (.int x_w_running_arc3_0_2)] [(.int x_w_running_arc3_0_2)])) target := by
    by_cases hjrc3_8 : x_w_running_arc3_0_2 = (0 : Int32)
    · refine ⟨_, _, Xjrc3_6, Njrc3_6, ejrc3_6, fun target kt => ?_⟩
      rw [(show (own_jrc3_2 x_w_running_arc3_0_0 x_w_running_arc3_0_1 x_w_running_arc3_0_2) = (own_jrc3_1 x_w_running_arc3_0_0 x_w_running_arc3_0_1) from if_pos hjrc3_8)] at kt
      show Steps p.tables e below (Tjrc3_6.setTop (mkF m 27 #[.val (.ref arc3_0), .val (.int (own_jrc3_1 x_w_running_arc3_0_0 x_w_running_arc3_0_1)), .val (.ref w_running_arc3_0), .val (.int (3 : Int32)), .val (.int (2 : Int32)), .val (.int x_w_running_arc3_0_2)] [(.int x_w_running_arc3_0_2)])) _
      refine XS.ifYes Xjrc3_6.here hx rfl (pc0 := 27) (pc' := 33) rfl (hb hby own_d8_27) rfl (XT.i0_eq_t hjrc3_8) (by decide) (by decide) ?_
      exact kt
    · refine ⟨_, _, Xjrc3_6, Njrc3_6, ejrc3_6, fun target kt => ?_⟩
      rw [(show (own_jrc3_2 x_w_running_arc3_0_0 x_w_running_arc3_0_1 x_w_running_arc3_0_2) = ((own_jrc3_1 x_w_running_arc3_0_0 x_w_running_arc3_0_1) + (1 : Int32)) from if_neg hjrc3_8)] at kt
      show Steps p.tables e below (Tjrc3_6.setTop (mkF m 27 #[.val (.ref arc3_0), .val (.int (own_jrc3_1 x_w_running_arc3_0_0 x_w_running_arc3_0_1)), .val (.ref w_running_arc3_0), .val (.int (3 : Int32)), .val (.int (2 : Int32)), .val (.int x_w_running_arc3_0_2)] [(.int x_w_running_arc3_0_2)])) _
      refine XS.ifNo Xjrc3_6.here hx rfl (hb hby own_d8_27) rfl (XT.i0_eq_f hjrc3_8) ?_
      refine XS.iinc Xjrc3_6.here hx rfl (hb hby own_d8_30) rfl (l' := #[.val (.ref arc3_0), .val (.int ((own_jrc3_1 x_w_running_arc3_0_0 x_w_running_arc3_0_1) + (1 : Int32))), .val (.ref w_running_arc3_0), .val (.int (3 : Int32)), .val (.int (2 : Int32)), .val (.int x_w_running_arc3_0_2)]) rfl ?_
      exact kt
  obtain ⟨fs, hr, hrun, hended, hW, hsame⟩ := Xjrc3_8.leave (v := some (.int (own_jrc3_2 x_w_running_arc3_0_0 x_w_running_arc3_0_1 x_w_running_arc3_0_2))) (fun h => by rw [Bd.returns] at h; cases h)
  refine ⟨_, _, pre0 _ (?_), hrun, hended, _, _, rfl, ?_, ⟨_, rfl⟩, hW, hsame.mono (by decide) (by decide)⟩
  · show Steps p.tables e below (s₁.setTop (mkF m 0 #[.val (.ref arc3_0), .unset, .unset, .unset, .unset, .unset] [])) _
    refine XS.iconst X0.here hx rfl (hb hby own_d8_0) ?_
    refine XS.istoreN X0.here hx rfl (hb hby own_d8_1) rfl (l' := #[.val (.ref arc3_0), .val (.int (0 : Int32)), .unset, .unset, .unset, .unset]) rfl ?_
    refine XS.aloadN X0.here hx rfl (hb hby own_d8_2) rfl rfl ?_
    refine stnrc3_1 _ ?_
    show Steps p.tables e below (Tnrc3_1.setTop (mkF m 6 #[.val (.ref arc3_0), .val (.int (0 : Int32)), .unset, .unset, .unset, .unset] [(.ref w_running_arc3_0)])) _
    refine XS.astoreN Xnrc3_1.here hx rfl (hb hby own_d8_6) rfl rfl (l' := #[.val (.ref arc3_0), .val (.int (0 : Int32)), .val (.ref w_running_arc3_0), .unset, .unset, .unset]) rfl ?_
    refine XS.aloadN Xnrc3_1.here hx rfl (hb hby own_d8_7) rfl rfl ?_
    refine Xnrc3_1.arraylength hx (by rw [enrc3_1]; exact Arorc3_2.1) (State.isArrayOf_alike hZ.alike Arorc3_2.2.1) (g := (mkF m 8 #[.val (.ref arc3_0), .val (.int (0 : Int32)), .val (.ref w_running_arc3_0), .unset, .unset, .unset] [(.ref w_running_arc3_0)])) rfl rfl (hb hby own_d8_8) _ ?_
    rw [len_of Sorc3_2 Norc3_2]
    show Steps p.tables e below (Tnrc3_1.setTop (mkF m 9 #[.val (.ref arc3_0), .val (.int (0 : Int32)), .val (.ref w_running_arc3_0), .unset, .unset, .unset] [(.int (3 : Int32))])) _
    refine XS.istoreN Xnrc3_1.here hx rfl (hb hby own_d8_9) rfl (l' := #[.val (.ref arc3_0), .val (.int (0 : Int32)), .val (.ref w_running_arc3_0), .val (.int (3 : Int32)), .unset, .unset]) rfl ?_
    refine XS.iconst Xnrc3_1.here hx rfl (hb hby own_d8_10) ?_
    refine XS.istore Xnrc3_1.here hx rfl (hb hby own_d8_11) rfl (l' := #[.val (.ref arc3_0), .val (.int (0 : Int32)), .val (.ref w_running_arc3_0), .val (.int (3 : Int32)), .val (.int (0 : Int32)), .unset]) rfl ?_
    refine XS.iload Xnrc3_1.here hx rfl (hb hby own_d8_13) rfl ?_
    refine XS.iloadN Xnrc3_1.here hx rfl (hb hby own_d8_15) rfl ?_
    refine XS.icmpNo Xnrc3_1.here hx rfl (hb hby own_d8_16) rfl (XT.ii_ge_f (by decide : (0 : Int32) < (3 : Int32))) ?_
    refine XS.aloadN Xnrc3_1.here hx rfl (hb hby own_d8_19) rfl rfl ?_
    refine XS.iload Xnrc3_1.here hx rfl (hb hby own_d8_20) rfl ?_
    refine Xnrc3_1.baloadBooleans hx (j := (0 : Int32)) (v := (.int x_w_running_arc3_0_0)) (by rw [enrc3_1]; exact Arorc3_3.1) (State.isArrayOf_alike hZ.alike Arorc3_3.2.1) Arorc3_3.2.2 hinorc3_3 hatorc3_3 (g := (mkF m 22 #[.val (.ref arc3_0), .val (.int (0 : Int32)), .val (.ref w_running_arc3_0), .val (.int (3 : Int32)), .val (.int (0 : Int32)), .unset] [(.int (0 : Int32)), (.ref w_running_arc3_0)])) rfl rfl (hb hby own_d8_22) _ ?_
    show Steps p.tables e below (Tnrc3_1.setTop (mkF m 23 #[.val (.ref arc3_0), .val (.int (0 : Int32)), .val (.ref w_running_arc3_0), .val (.int (3 : Int32)), .val (.int (0 : Int32)), .unset] [(.int x_w_running_arc3_0_0)])) _
    refine XS.istore Xnrc3_1.here hx rfl (hb hby own_d8_23) rfl (l' := #[.val (.ref arc3_0), .val (.int (0 : Int32)), .val (.ref w_running_arc3_0), .val (.int (3 : Int32)), .val (.int (0 : Int32)), .val (.int x_w_running_arc3_0_0)]) rfl ?_
    refine XS.iload Xnrc3_1.here hx rfl (hb hby own_d8_25) rfl ?_
    refine stjrc3_4 _ ?_
    show Steps p.tables e below (Tjrc3_4.setTop (mkF m 33 #[.val (.ref arc3_0), .val (.int (own_jrc3_0 x_w_running_arc3_0_0)), .val (.ref w_running_arc3_0), .val (.int (3 : Int32)), .val (.int (0 : Int32)), .val (.int x_w_running_arc3_0_0)] [])) _
    refine XS.iinc Xjrc3_4.here hx rfl (hb hby own_d8_33) rfl (l' := #[.val (.ref arc3_0), .val (.int (own_jrc3_0 x_w_running_arc3_0_0)), .val (.ref w_running_arc3_0), .val (.int (3 : Int32)), .val (.int (1 : Int32)), .val (.int x_w_running_arc3_0_0)]) rfl ?_
    refine XS.goto Xjrc3_4.here hx rfl (pc0 := 36) (pc' := 13) rfl (hb hby own_d8_36) (by decide) (by decide) ?_
    refine XS.iload Xjrc3_4.here hx rfl (hb hby own_d8_13) rfl ?_
    refine XS.iloadN Xjrc3_4.here hx rfl (hb hby own_d8_15) rfl ?_
    refine XS.icmpNo Xjrc3_4.here hx rfl (hb hby own_d8_16) rfl (XT.ii_ge_f (by decide : (1 : Int32) < (3 : Int32))) ?_
    refine XS.aloadN Xjrc3_4.here hx rfl (hb hby own_d8_19) rfl rfl ?_
    refine XS.iload Xjrc3_4.here hx rfl (hb hby own_d8_20) rfl ?_
    refine Xjrc3_4.baloadBooleans hx (j := (1 : Int32)) (v := (.int x_w_running_arc3_0_1)) (by rw [ejrc3_4]; exact Arorc3_5.1) (State.isArrayOf_alike hZ.alike Arorc3_5.2.1) Arorc3_5.2.2 hinorc3_5 hatorc3_5 (g := (mkF m 22 #[.val (.ref arc3_0), .val (.int (own_jrc3_0 x_w_running_arc3_0_0)), .val (.ref w_running_arc3_0), .val (.int (3 : Int32)), .val (.int (1 : Int32)), .val (.int x_w_running_arc3_0_0)] [(.int (1 : Int32)), (.ref w_running_arc3_0)])) rfl rfl (hb hby own_d8_22) _ ?_
    show Steps p.tables e below (Tjrc3_4.setTop (mkF m 23 #[.val (.ref arc3_0), .val (.int (own_jrc3_0 x_w_running_arc3_0_0)), .val (.ref w_running_arc3_0), .val (.int (3 : Int32)), .val (.int (1 : Int32)), .val (.int x_w_running_arc3_0_0)] [(.int x_w_running_arc3_0_1)])) _
    refine XS.istore Xjrc3_4.here hx rfl (hb hby own_d8_23) rfl (l' := #[.val (.ref arc3_0), .val (.int (own_jrc3_0 x_w_running_arc3_0_0)), .val (.ref w_running_arc3_0), .val (.int (3 : Int32)), .val (.int (1 : Int32)), .val (.int x_w_running_arc3_0_1)]) rfl ?_
    refine XS.iload Xjrc3_4.here hx rfl (hb hby own_d8_25) rfl ?_
    refine stjrc3_6 _ ?_
    show Steps p.tables e below (Tjrc3_6.setTop (mkF m 33 #[.val (.ref arc3_0), .val (.int (own_jrc3_1 x_w_running_arc3_0_0 x_w_running_arc3_0_1)), .val (.ref w_running_arc3_0), .val (.int (3 : Int32)), .val (.int (1 : Int32)), .val (.int x_w_running_arc3_0_1)] [])) _
    refine XS.iinc Xjrc3_6.here hx rfl (hb hby own_d8_33) rfl (l' := #[.val (.ref arc3_0), .val (.int (own_jrc3_1 x_w_running_arc3_0_0 x_w_running_arc3_0_1)), .val (.ref w_running_arc3_0), .val (.int (3 : Int32)), .val (.int (2 : Int32)), .val (.int x_w_running_arc3_0_1)]) rfl ?_
    refine XS.goto Xjrc3_6.here hx rfl (pc0 := 36) (pc' := 13) rfl (hb hby own_d8_36) (by decide) (by decide) ?_
    refine XS.iload Xjrc3_6.here hx rfl (hb hby own_d8_13) rfl ?_
    refine XS.iloadN Xjrc3_6.here hx rfl (hb hby own_d8_15) rfl ?_
    refine XS.icmpNo Xjrc3_6.here hx rfl (hb hby own_d8_16) rfl (XT.ii_ge_f (by decide : (2 : Int32) < (3 : Int32))) ?_
    refine XS.aloadN Xjrc3_6.here hx rfl (hb hby own_d8_19) rfl rfl ?_
    refine XS.iload Xjrc3_6.here hx rfl (hb hby own_d8_20) rfl ?_
    refine Xjrc3_6.baloadBooleans hx (j := (2 : Int32)) (v := (.int x_w_running_arc3_0_2)) (by rw [ejrc3_6]; exact Arorc3_7.1) (State.isArrayOf_alike hZ.alike Arorc3_7.2.1) Arorc3_7.2.2 hinorc3_7 hatorc3_7 (g := (mkF m 22 #[.val (.ref arc3_0), .val (.int (own_jrc3_1 x_w_running_arc3_0_0 x_w_running_arc3_0_1)), .val (.ref w_running_arc3_0), .val (.int (3 : Int32)), .val (.int (2 : Int32)), .val (.int x_w_running_arc3_0_1)] [(.int (2 : Int32)), (.ref w_running_arc3_0)])) rfl rfl (hb hby own_d8_22) _ ?_
    show Steps p.tables e below (Tjrc3_6.setTop (mkF m 23 #[.val (.ref arc3_0), .val (.int (own_jrc3_1 x_w_running_arc3_0_0 x_w_running_arc3_0_1)), .val (.ref w_running_arc3_0), .val (.int (3 : Int32)), .val (.int (2 : Int32)), .val (.int x_w_running_arc3_0_1)] [(.int x_w_running_arc3_0_2)])) _
    refine XS.istore Xjrc3_6.here hx rfl (hb hby own_d8_23) rfl (l' := #[.val (.ref arc3_0), .val (.int (own_jrc3_1 x_w_running_arc3_0_0 x_w_running_arc3_0_1)), .val (.ref w_running_arc3_0), .val (.int (3 : Int32)), .val (.int (2 : Int32)), .val (.int x_w_running_arc3_0_2)]) rfl ?_
    refine XS.iload Xjrc3_6.here hx rfl (hb hby own_d8_25) rfl ?_
    refine stjrc3_8 _ ?_
    show Steps p.tables e below (Tjrc3_8.setTop (mkF m 33 #[.val (.ref arc3_0), .val (.int (own_jrc3_2 x_w_running_arc3_0_0 x_w_running_arc3_0_1 x_w_running_arc3_0_2)), .val (.ref w_running_arc3_0), .val (.int (3 : Int32)), .val (.int (2 : Int32)), .val (.int x_w_running_arc3_0_2)] [])) _
    refine XS.iinc Xjrc3_8.here hx rfl (hb hby own_d8_33) rfl (l' := #[.val (.ref arc3_0), .val (.int (own_jrc3_2 x_w_running_arc3_0_0 x_w_running_arc3_0_1 x_w_running_arc3_0_2)), .val (.ref w_running_arc3_0), .val (.int (3 : Int32)), .val (.int (3 : Int32)), .val (.int x_w_running_arc3_0_2)]) rfl ?_
    refine XS.goto Xjrc3_8.here hx rfl (pc0 := 36) (pc' := 13) rfl (hb hby own_d8_36) (by decide) (by decide) ?_
    refine XS.iload Xjrc3_8.here hx rfl (hb hby own_d8_13) rfl ?_
    refine XS.iloadN Xjrc3_8.here hx rfl (hb hby own_d8_15) rfl ?_
    refine XS.icmpYes Xjrc3_8.here hx rfl (pc0 := 16) (pc' := 39) rfl (hb hby own_d8_16) rfl (XT.ii_ge_t (by decide : ¬ ((3 : Int32) < (3 : Int32)))) (by decide) (by decide) ?_
    refine XS.iloadN Xjrc3_8.here hx rfl (hb hby own_d8_39) rfl ?_
    show Steps p.tables e below (Tjrc3_8.setTop (mkF m 40 #[.val (.ref arc3_0), .val (.int (own_jrc3_2 x_w_running_arc3_0_0 x_w_running_arc3_0_1 x_w_running_arc3_0_2)), .val (.ref w_running_arc3_0), .val (.int (3 : Int32)), .val (.int (3 : Int32)), .val (.int x_w_running_arc3_0_2)] [(.int (own_jrc3_2 x_w_running_arc3_0_0 x_w_running_arc3_0_1 x_w_running_arc3_0_2))])) _
    exact retI Xjrc3_8 hx Bd.returns (hb hby own_d8_40) hr
  · show own_Qrc3 Z arc3_0 w_running_arc3_0 k_w_running_arc3_0 x_w_running_arc3_0_0 x_w_running_arc3_0_1 x_w_running_arc3_0_2 h0 n0 _ Tjrc3_8.heap _
    rw [ejrc3_8]
    exact ⟨rfl, Njrc3_8, rfl⟩
def own_jrc4_0 (x_w_running_arc4_0_0 : Int32) : Int32 := if x_w_running_arc4_0_0 = (0 : Int32) then (0 : Int32) else (1 : Int32)
def own_jrc4_1 (x_w_running_arc4_0_0 : Int32) (x_w_running_arc4_0_1 : Int32) : Int32 := if x_w_running_arc4_0_1 = (0 : Int32) then (own_jrc4_0 x_w_running_arc4_0_0) else ((own_jrc4_0 x_w_running_arc4_0_0) + (1 : Int32))
def own_jrc4_2 (x_w_running_arc4_0_0 : Int32) (x_w_running_arc4_0_1 : Int32) (x_w_running_arc4_0_2 : Int32) : Int32 := if x_w_running_arc4_0_2 = (0 : Int32) then (own_jrc4_1 x_w_running_arc4_0_0 x_w_running_arc4_0_1) else ((own_jrc4_1 x_w_running_arc4_0_0 x_w_running_arc4_0_1) + (1 : Int32))
def own_jrc4_3 (x_w_running_arc4_0_0 : Int32) (x_w_running_arc4_0_1 : Int32) (x_w_running_arc4_0_2 : Int32) (x_w_running_arc4_0_3 : Int32) : Int32 := if x_w_running_arc4_0_3 = (0 : Int32) then (own_jrc4_2 x_w_running_arc4_0_0 x_w_running_arc4_0_1 x_w_running_arc4_0_2) else ((own_jrc4_2 x_w_running_arc4_0_0 x_w_running_arc4_0_1 x_w_running_arc4_0_2) + (1 : Int32))
def own_rrc4_4 (x_w_running_arc4_0_0 : Int32) (x_w_running_arc4_0_1 : Int32) (x_w_running_arc4_0_2 : Int32) (x_w_running_arc4_0_3 : Int32) : Int32 := (own_jrc4_3 x_w_running_arc4_0_0 x_w_running_arc4_0_1 x_w_running_arc4_0_2 x_w_running_arc4_0_3)
theorem own_efrc4 (m : MethodId) (arc4_0 : Addr) : entryFrame m #[(.ref arc4_0)] 6 = mkF m 0 #[.val (.ref arc4_0), .unset, .unset, .unset, .unset, .unset] [] := by first | (simp [entryFrame, mkF, argsToLocals, Value.category]; done) | rfl
def own_Qrc4 (Z : State) (arc4_0 : Addr) (w_running_arc4_0 : Addr) (k_w_running_arc4_0 : ClassId) (x_w_running_arc4_0_0 : Int32) (x_w_running_arc4_0_1 : Int32) (x_w_running_arc4_0_2 : Int32) (x_w_running_arc4_0_3 : Int32) (h0 : Heap) (n0 : Nat) (v : Option Value) (h : Heap) (L : List Loc) : Prop := v = some (.int (own_rrc4_4 x_w_running_arc4_0_0 x_w_running_arc4_0_1 x_w_running_arc4_0_2 x_w_running_arc4_0_3)) ∧ Fr n0 L ∧ h = h0
set_option maxRecDepth 65536 in
set_option maxHeartbeats 40000000 in
theorem own_rmrc4 (l : Launch) (Z : State) (a0 : Array Value) (hw : ∀ d ∈ tables_1, d.before a0 Z = true) (ws : List Jvm.Cond) (arc4_0 : Addr) (w_running_arc4_0 : Addr) (k_w_running_arc4_0 : ClassId) (x_w_running_arc4_0_0 : Int32) (x_w_running_arc4_0_1 : Int32) (x_w_running_arc4_0_2 : Int32) (x_w_running_arc4_0_3 : Int32) (h0 : Heap) (n0 : Nat) (Z0 : n0 ≤ h0.size) (F_running_arc4_0 : Fld Z h0 arc4_0 "com/example/arborway/arborway/sim/RunTally$Walk" "running" "[Z" (.ref w_running_arc4_0)) (V_w_running_arc4_0 : Arv Z h0 w_running_arc4_0 k_w_running_arc4_0 .boolean (4 : Int32) [(.int x_w_running_arc4_0_0), (.int x_w_running_arc4_0_1), (.int x_w_running_arc4_0_2), (.int x_w_running_arc4_0_3)] (.int (0 : Int32))) :
    MetFree l (⟨"com/example/arborway/arborway/sim/RunTally$Walk", "runningCount", "()I"⟩ : MethodName) (head1 (Jvm.Cond.code (⟨"com/example/arborway/arborway/sim/RunTally$Walk", "runningCount", "()I"⟩ : MethodName) prog_76_method_5_code 6 (some .int) :: ws) ({ frames := 0, cells := 0, slots := 0, locals := 0 } : Room)) (fun a U => a = #[(.ref arc4_0)] ∧ Z.Warmed39 U.vm ∧ U.heap = h0) (fun _ _ _ _ _ => True) (fun _ U o U' => ∃ v L, o = .returned v ∧ own_Qrc4 Z arc4_0 w_running_arc4_0 k_w_running_arc4_0 x_w_running_arc4_0_0 x_w_running_arc4_0_1 x_w_running_arc4_0_2 x_w_running_arc4_0_3 h0 n0 v U'.heap L ∧ FrameEnd U o U' L ({ frames := 0, cells := 0, slots := 0, locals := 0 } : Room).cells ({ frames := 0, cells := 0, slots := 0, locals := 0 } : Room).slots) := by
  refine MetFree.of_bodySF (plainFor_of_name own_pn2) hisR ?_
  intro p e s m args below meth c s₁ Bd hml0 hP hK
  obtain ⟨rfl, hZ, hh⟩ := hP
  have hx := Bd.exec
  have hby := Bd.bytes
  have hml : c.maxLocals = 6 := hml0
  have hown : s.vm.findClass "com/example/arborway/arborway/sim/RunTally$Walk" = some m.cls := findClass_of_methodNamed Bd.named
  have hnm := (name_of_methodNamed Bd.named Bd.method).1
  have X0 : Stand p l e ({ frames := 0, cells := 0, slots := 0, locals := 0 } : Room) s m #[(.ref arc4_0)] below meth c s₁ [] 0 0 := Stand.of_body Bd
  have e0 : s₁.heap = h0 := by rw [← hh, Bd.state]; rfl
  have N0 := Fr.nil n0
  have Zr : h0.size ≤ h0.size := Nat.le_refl _
  have pre0 : ∀ t, Steps p.tables e below (s₁.setTop (mkF m 0 #[.val (.ref arc4_0), .unset, .unset, .unset, .unset, .unset] [])) t → Steps p.tables e below (s₁.setTop (entryFrame m #[(.ref arc4_0)] 6)) t := fun t k => castTop (own_efrc4 m arc4_0) k
  obtain ⟨Tnrc4_1, Xnrc4_1, enrc4_1, stnrc4_1⟩ := getF X0 hx hZ hown (host := "") (Or.inl (own_W hw 35 rfl)) Via.refl e0 F_running_arc4_0 (g := (mkF m 3 #[.val (.ref arc4_0), .val (.int (0 : Int32)), .unset, .unset, .unset, .unset] [(.ref arc4_0)])) rfl rfl (hb hby own_d8_3)
  have Oorc4_2 := V_w_running_arc4_0
  obtain ⟨clorc4_2, Arorc4_2, qorc4_2, Sorc4_2, Norc4_2, Horc4_2, Gorc4_2⟩ := Oorc4_2
  have Oorc4_3 := V_w_running_arc4_0
  obtain ⟨clorc4_3, Arorc4_3, qorc4_3, Sorc4_3, Norc4_3, Horc4_3, Gorc4_3⟩ := Oorc4_3
  have hinorc4_3 : ¬ ((0 : Int32) < 0 ∨ clorc4_3.slots.size ≤ ((0 : Int32)).toNatClampNeg) := inb_of Sorc4_3 ⟨by decide, by decide⟩
  have hatorc4_3 : clorc4_3.slots[((0 : Int32)).toNatClampNeg]? = some (.int x_w_running_arc4_0_0) := Horc4_3.at hinorc4_3 rfl
  obtain ⟨Tjrc4_4, ljrc4_4, Xjrc4_4, Njrc4_4, ejrc4_4, stjrc4_4⟩ : ∃ (T' : State) (l' : List Loc), Stand p l e ({ frames := 0, cells := 0, slots := 0, locals := 0 } : Room) s m #[(.ref arc4_0)] below meth c T' l' 0 0 ∧ Fr n0 l' ∧ T'.heap = h0 ∧ ∀ target, Steps p.tables e below (T'.setTop (mkF m 33 #[.val (.ref arc4_0), .val (.int (own_jrc4_0 x_w_running_arc4_0_0)), .val (.ref w_running_arc4_0), .val (.int (4 : Int32)), .val (.int (0 : Int32)), .val (.int x_w_running_arc4_0_0)] [])) target → Steps p.tables e below (Tnrc4_1.setTop (mkF m 27 #[.val (.ref arc4_0), .val (.int (0 : Int32)), .val (.ref w_running_arc4_0), .val (.int (4 : Int32)), .val (.int (0 : Int32)), .val (.int x_w_running_arc4_0_0)] [(.int x_w_running_arc4_0_0)])) target := by
    by_cases hjrc4_4 : x_w_running_arc4_0_0 = (0 : Int32)
    · refine ⟨_, _, Xnrc4_1, N0, enrc4_1, fun target kt => ?_⟩
      rw [(show (own_jrc4_0 x_w_running_arc4_0_0) = (0 : Int32) from if_pos hjrc4_4)] at kt
      show Steps p.tables e below (Tnrc4_1.setTop (mkF m 27 #[.val (.ref arc4_0), .val (.int (0 : Int32)), .val (.ref w_running_arc4_0), .val (.int (4 : Int32)), .val (.int (0 : Int32)), .val (.int x_w_running_arc4_0_0)] [(.int x_w_running_arc4_0_0)])) _
      refine XS.ifYes Xnrc4_1.here hx rfl (pc0 := 27) (pc' := 33) rfl (hb hby own_d8_27) rfl (XT.i0_eq_t hjrc4_4) (by decide) (by decide) ?_
      exact kt
    · refine ⟨_, _, Xnrc4_1, N0, enrc4_1, fun target kt => ?_⟩
      rw [(show (own_jrc4_0 x_w_running_arc4_0_0) = (1 : Int32) from if_neg hjrc4_4)] at kt
      show Steps p.tables e below (Tnrc4_1.setTop (mkF m 27 #[.val (.ref arc4_0), .val (.int (0 : Int32)), .val (.ref w_running_arc4_0), .val (.int (4 : Int32)), .val (.int (0 : Int32)), .val (.int x_w_running_arc4_0_0)] [(.int x_w_running_arc4_0_0)])) _
      refine XS.ifNo Xnrc4_1.here hx rfl (hb hby own_d8_27) rfl (XT.i0_eq_f hjrc4_4) ?_
      refine XS.iinc Xnrc4_1.here hx rfl (hb hby own_d8_30) rfl (l' := #[.val (.ref arc4_0), .val (.int (1 : Int32)), .val (.ref w_running_arc4_0), .val (.int (4 : Int32)), .val (.int (0 : Int32)), .val (.int x_w_running_arc4_0_0)]) rfl ?_
      exact kt
  have Oorc4_5 := V_w_running_arc4_0
  obtain ⟨clorc4_5, Arorc4_5, qorc4_5, Sorc4_5, Norc4_5, Horc4_5, Gorc4_5⟩ := Oorc4_5
  have hinorc4_5 : ¬ ((1 : Int32) < 0 ∨ clorc4_5.slots.size ≤ ((1 : Int32)).toNatClampNeg) := inb_of Sorc4_5 ⟨by decide, by decide⟩
  have hatorc4_5 : clorc4_5.slots[((1 : Int32)).toNatClampNeg]? = some (.int x_w_running_arc4_0_1) := Horc4_5.at hinorc4_5 rfl
  obtain ⟨Tjrc4_6, ljrc4_6, Xjrc4_6, Njrc4_6, ejrc4_6, stjrc4_6⟩ : ∃ (T' : State) (l' : List Loc), Stand p l e ({ frames := 0, cells := 0, slots := 0, locals := 0 } : Room) s m #[(.ref arc4_0)] below meth c T' l' 0 0 ∧ Fr n0 l' ∧ T'.heap = h0 ∧ ∀ target, Steps p.tables e below (T'.setTop (mkF m 33 #[.val (.ref arc4_0), .val (.int (own_jrc4_1 x_w_running_arc4_0_0 x_w_running_arc4_0_1)), .val (.ref w_running_arc4_0), .val (.int (4 : Int32)), .val (.int (1 : Int32)), .val (.int x_w_running_arc4_0_1)] [])) target → Steps p.tables e below (Tjrc4_4.setTop (mkF m 27 #[.val (.ref arc4_0), .val (.int (own_jrc4_0 x_w_running_arc4_0_0)), .val (.ref w_running_arc4_0), .val (.int (4 : Int32)), .val (.int (1 : Int32)), .val (.int x_w_running_arc4_0_1)] [(.int x_w_running_arc4_0_1)])) target := by
    by_cases hjrc4_6 : x_w_running_arc4_0_1 = (0 : Int32)
    · refine ⟨_, _, Xjrc4_4, Njrc4_4, ejrc4_4, fun target kt => ?_⟩
      rw [(show (own_jrc4_1 x_w_running_arc4_0_0 x_w_running_arc4_0_1) = (own_jrc4_0 x_w_running_arc4_0_0) from if_pos hjrc4_6)] at kt
      show Steps p.tables e below (Tjrc4_4.setTop (mkF m 27 #[.val (.ref arc4_0), .val (.int (own_jrc4_0 x_w_running_arc4_0_0)), .val (.ref w_running_arc4_0), .val (.int (4 : Int32)), .val (.int (1 : Int32)), .val (.int x_w_running_arc4_0_1)] [(.int x_w_running_arc4_0_1)])) _
      refine XS.ifYes Xjrc4_4.here hx rfl (pc0 := 27) (pc' := 33) rfl (hb hby own_d8_27) rfl (XT.i0_eq_t hjrc4_6) (by decide) (by decide) ?_
      exact kt
    · refine ⟨_, _, Xjrc4_4, Njrc4_4, ejrc4_4, fun target kt => ?_⟩
      rw [(show (own_jrc4_1 x_w_running_arc4_0_0 x_w_running_arc4_0_1) = ((own_jrc4_0 x_w_running_arc4_0_0) + (1 : Int32)) from if_neg hjrc4_6)] at kt
      show Steps p.tables e below (Tjrc4_4.setTop (mkF m 27 #[.val (.ref arc4_0), .val (.int (own_jrc4_0 x_w_running_arc4_0_0)), .val (.ref w_running_arc4_0), .val (.int (4 : Int32)), .val (.int (1 : Int32)), .val (.int x_w_running_arc4_0_1)] [(.int x_w_running_arc4_0_1)])) _
      refine XS.ifNo Xjrc4_4.here hx rfl (hb hby own_d8_27) rfl (XT.i0_eq_f hjrc4_6) ?_
      refine XS.iinc Xjrc4_4.here hx rfl (hb hby own_d8_30) rfl (l' := #[.val (.ref arc4_0), .val (.int ((own_jrc4_0 x_w_running_arc4_0_0) + (1 : Int32))), .val (.ref w_running_arc4_0), .val (.int (4 : Int32)), .val (.int (1 : Int32)), .val (.int x_w_running_arc4_0_1)]) rfl ?_
      exact kt
  have Oorc4_7 := V_w_running_arc4_0
  obtain ⟨clorc4_7, Arorc4_7, qorc4_7, Sorc4_7, Norc4_7, Horc4_7, Gorc4_7⟩ := Oorc4_7
  have hinorc4_7 : ¬ ((2 : Int32) < 0 ∨ clorc4_7.slots.size ≤ ((2 : Int32)).toNatClampNeg) := inb_of Sorc4_7 ⟨by decide, by decide⟩
  have hatorc4_7 : clorc4_7.slots[((2 : Int32)).toNatClampNeg]? = some (.int x_w_running_arc4_0_2) := Horc4_7.at hinorc4_7 rfl
  obtain ⟨Tjrc4_8, ljrc4_8, Xjrc4_8, Njrc4_8, ejrc4_8, stjrc4_8⟩ : ∃ (T' : State) (l' : List Loc), Stand p l e ({ frames := 0, cells := 0, slots := 0, locals := 0 } : Room) s m #[(.ref arc4_0)] below meth c T' l' 0 0 ∧ Fr n0 l' ∧ T'.heap = h0 ∧ ∀ target, Steps p.tables e below (T'.setTop (mkF m 33 #[.val (.ref arc4_0), .val (.int (own_jrc4_2 x_w_running_arc4_0_0 x_w_running_arc4_0_1 x_w_running_arc4_0_2)), .val (.ref w_running_arc4_0), .val (.int (4 : Int32)), .val (.int (2 : Int32)), .val (.int x_w_running_arc4_0_2)] [])) target → Steps p.tables e below (Tjrc4_6.setTop (mkF m 27 #[.val (.ref arc4_0), .val (.int (own_jrc4_1 x_w_running_arc4_0_0 x_w_running_arc4_0_1)), .val (.ref w_running_arc4_0), .val (.int (4 : Int32)), .val (.int (2 : Int32)), .val (.int x_w_running_arc4_0_2)] [(.int x_w_running_arc4_0_2)])) target := by
    by_cases hjrc4_8 : x_w_running_arc4_0_2 = (0 : Int32)
    · refine ⟨_, _, Xjrc4_6, Njrc4_6, ejrc4_6, fun target kt => ?_⟩
      rw [(show (own_jrc4_2 x_w_running_arc4_0_0 x_w_running_arc4_0_1 x_w_running_arc4_0_2) = (own_jrc4_1 x_w_running_arc4_0_0 x_w_running_arc4_0_1) from if_pos hjrc4_8)] at kt
      show Steps p.tables e below (Tjrc4_6.setTop (mkF m 27 #[.val (.ref arc4_0), .val (.int (own_jrc4_1 x_w_running_arc4_0_0 x_w_running_arc4_0_1)), .val (.ref w_running_arc4_0), .val (.int (4 : Int32)), .val (.int (2 : Int32)), .val (.int x_w_running_arc4_0_2)] [(.int x_w_running_arc4_0_2)])) _
      refine XS.ifYes Xjrc4_6.here hx rfl (pc0 := 27) (pc' := 33) rfl (hb hby own_d8_27) rfl (XT.i0_eq_t hjrc4_8) (by decide) (by decide) ?_
      exact kt
    · refine ⟨_, _, Xjrc4_6, Njrc4_6, ejrc4_6, fun target kt => ?_⟩
      rw [(show (own_jrc4_2 x_w_running_arc4_0_0 x_w_running_arc4_0_1 x_w_running_arc4_0_2) = ((own_jrc4_1 x_w_running_arc4_0_0 x_w_running_arc4_0_1) + (1 : Int32)) from if_neg hjrc4_8)] at kt
      show Steps p.tables e below (Tjrc4_6.setTop (mkF m 27 #[.val (.ref arc4_0), .val (.int (own_jrc4_1 x_w_running_arc4_0_0 x_w_running_arc4_0_1)), .val (.ref w_running_arc4_0), .val (.int (4 : Int32)), .val (.int (2 : Int32)), .val (.int x_w_running_arc4_0_2)] [(.int x_w_running_arc4_0_2)])) _
      refine XS.ifNo Xjrc4_6.here hx rfl (hb hby own_d8_27) rfl (XT.i0_eq_f hjrc4_8) ?_
      refine XS.iinc Xjrc4_6.here hx rfl (hb hby own_d8_30) rfl (l' := #[.val (.ref arc4_0), .val (.int ((own_jrc4_1 x_w_running_arc4_0_0 x_w_running_arc4_0_1) + (1 : Int32))), .val (.ref w_running_arc4_0), .val (.int (4 : Int32)), .val (.int (2 : Int32)), .val (.int x_w_running_arc4_0_2)]) rfl ?_
      exact kt
  have Oorc4_9 := V_w_running_arc4_0
  obtain ⟨clorc4_9, Arorc4_9, qorc4_9, Sorc4_9, Norc4_9, Horc4_9, Gorc4_9⟩ := Oorc4_9
  have hinorc4_9 : ¬ ((3 : Int32) < 0 ∨ clorc4_9.slots.size ≤ ((3 : Int32)).toNatClampNeg) := inb_of Sorc4_9 ⟨by decide, by decide⟩
  have hatorc4_9 : clorc4_9.slots[((3 : Int32)).toNatClampNeg]? = some (.int x_w_running_arc4_0_3) := Horc4_9.at hinorc4_9 rfl
  obtain ⟨Tjrc4_10, ljrc4_10, Xjrc4_10, Njrc4_10, ejrc4_10, stjrc4_10⟩ : ∃ (T' : State) (l' : List Loc), Stand p l e ({ frames := 0, cells := 0, slots := 0, locals := 0 } : Room) s m #[(.ref arc4_0)] below meth c T' l' 0 0 ∧ Fr n0 l' ∧ T'.heap = h0 ∧ ∀ target, Steps p.tables e below (T'.setTop (mkF m 33 #[.val (.ref arc4_0), .val (.int (own_jrc4_3 x_w_running_arc4_0_0 x_w_running_arc4_0_1 x_w_running_arc4_0_2 x_w_running_arc4_0_3)), .val (.ref w_running_arc4_0), .val (.int (4 : Int32)), .val (.int (3 : Int32)), .val (.int x_w_running_arc4_0_3)] [])) target → Steps p.tables e below (Tjrc4_8.setTop (mkF m 27 #[.val (.ref arc4_0), .val (.int (own_jrc4_2 x_w_running_arc4_0_0 x_w_running_arc4_0_1 x_w_running_arc4_0_2)), .val (.ref w_running_arc4_0), .val (.int (4 : Int32)), .val (.int (3 : Int32)), .val (.int x_w_running_arc4_0_3)] [(.int x_w_running_arc4_0_3)])) target := by
    by_cases hjrc4_10 : x_w_running_arc4_0_3 = (0 : Int32)
    · refine ⟨_, _, Xjrc4_8, Njrc4_8, ejrc4_8, fun target kt => ?_⟩
      rw [(show (own_jrc4_3 x_w_running_arc4_0_0 x_w_running_arc4_0_1 x_w_running_arc4_0_2 x_w_running_arc4_0_3) = (own_jrc4_2 x_w_running_arc4_0_0 x_w_running_arc4_0_1 x_w_running_arc4_0_2) from if_pos hjrc4_10)] at kt
      show Steps p.tables e below (Tjrc4_8.setTop (mkF m 27 #[.val (.ref arc4_0), .val (.int (own_jrc4_2 x_w_running_arc4_0_0 x_w_running_arc4_0_1 x_w_running_arc4_0_2)), .val (.ref w_running_arc4_0), .val (.int (4 : Int32)), .val (.int (3 : Int32)), .val (.int x_w_running_arc4_0_3)] [(.int x_w_running_arc4_0_3)])) _
      refine XS.ifYes Xjrc4_8.here hx rfl (pc0 := 27) (pc' := 33) rfl (hb hby own_d8_27) rfl (XT.i0_eq_t hjrc4_10) (by decide) (by decide) ?_
      exact kt
    · refine ⟨_, _, Xjrc4_8, Njrc4_8, ejrc4_8, fun target kt => ?_⟩
      rw [(show (own_jrc4_3 x_w_running_arc4_0_0 x_w_running_arc4_0_1 x_w_running_arc4_0_2 x_w_running_arc4_0_3) = ((own_jrc4_2 x_w_running_arc4_0_0 x_w_running_arc4_0_1 x_w_running_arc4_0_2) + (1 : Int32)) from if_neg hjrc4_10)] at kt
      show Steps p.tables e below (Tjrc4_8.setTop (mkF m 27 #[.val (.ref arc4_0), .val (.int (own_jrc4_2 x_w_running_arc4_0_0 x_w_running_arc4_0_1 x_w_running_arc4_0_2)), .val (.ref w_running_arc4_0), .val (.int (4 : Int32)), .val (.int (3 : Int32)), .val (.int x_w_running_arc4_0_3)] [(.int x_w_running_arc4_0_3)])) _
      refine XS.ifNo Xjrc4_8.here hx rfl (hb hby own_d8_27) rfl (XT.i0_eq_f hjrc4_10) ?_
      refine XS.iinc Xjrc4_8.here hx rfl (hb hby own_d8_30) rfl (l' := #[.val (.ref arc4_0), .val (.int ((own_jrc4_2 x_w_running_arc4_0_0 x_w_running_arc4_0_1 x_w_running_arc4_0_2) + (1 : Int32))), .val (.ref w_running_arc4_0), .val (.int (4 : Int32)), .val (.int (3 : Int32)), .val (.int x_w_running_arc4_0_3)]) rfl ?_
      exact kt
  obtain ⟨fs, hr, hrun, hended, hW, hsame⟩ := Xjrc4_10.leave (v := some (.int (own_jrc4_3 x_w_running_arc4_0_0 x_w_running_arc4_0_1 x_w_running_arc4_0_2 x_w_running_arc4_0_3))) (fun h => by rw [Bd.returns] at h; cases h)
  refine ⟨_, _, pre0 _ (?_), hrun, hended, _, _, rfl, ?_, ⟨_, rfl⟩, hW, hsame.mono (by decide) (by decide)⟩
  · show Steps p.tables e below (s₁.setTop (mkF m 0 #[.val (.ref arc4_0), .unset, .unset, .unset, .unset, .unset] [])) _
    refine XS.iconst X0.here hx rfl (hb hby own_d8_0) ?_
    refine XS.istoreN X0.here hx rfl (hb hby own_d8_1) rfl (l' := #[.val (.ref arc4_0), .val (.int (0 : Int32)), .unset, .unset, .unset, .unset]) rfl ?_
    refine XS.aloadN X0.here hx rfl (hb hby own_d8_2) rfl rfl ?_
    refine stnrc4_1 _ ?_
    show Steps p.tables e below (Tnrc4_1.setTop (mkF m 6 #[.val (.ref arc4_0), .val (.int (0 : Int32)), .unset, .unset, .unset, .unset] [(.ref w_running_arc4_0)])) _
    refine XS.astoreN Xnrc4_1.here hx rfl (hb hby own_d8_6) rfl rfl (l' := #[.val (.ref arc4_0), .val (.int (0 : Int32)), .val (.ref w_running_arc4_0), .unset, .unset, .unset]) rfl ?_
    refine XS.aloadN Xnrc4_1.here hx rfl (hb hby own_d8_7) rfl rfl ?_
    refine Xnrc4_1.arraylength hx (by rw [enrc4_1]; exact Arorc4_2.1) (State.isArrayOf_alike hZ.alike Arorc4_2.2.1) (g := (mkF m 8 #[.val (.ref arc4_0), .val (.int (0 : Int32)), .val (.ref w_running_arc4_0), .unset, .unset, .unset] [(.ref w_running_arc4_0)])) rfl rfl (hb hby own_d8_8) _ ?_
    rw [len_of Sorc4_2 Norc4_2]
    show Steps p.tables e below (Tnrc4_1.setTop (mkF m 9 #[.val (.ref arc4_0), .val (.int (0 : Int32)), .val (.ref w_running_arc4_0), .unset, .unset, .unset] [(.int (4 : Int32))])) _
    refine XS.istoreN Xnrc4_1.here hx rfl (hb hby own_d8_9) rfl (l' := #[.val (.ref arc4_0), .val (.int (0 : Int32)), .val (.ref w_running_arc4_0), .val (.int (4 : Int32)), .unset, .unset]) rfl ?_
    refine XS.iconst Xnrc4_1.here hx rfl (hb hby own_d8_10) ?_
    refine XS.istore Xnrc4_1.here hx rfl (hb hby own_d8_11) rfl (l' := #[.val (.ref arc4_0), .val (.int (0 : Int32)), .val (.ref w_running_arc4_0), .val (.int (4 : Int32)), .val (.int (0 : Int32)), .unset]) rfl ?_
    refine XS.iload Xnrc4_1.here hx rfl (hb hby own_d8_13) rfl ?_
    refine XS.iloadN Xnrc4_1.here hx rfl (hb hby own_d8_15) rfl ?_
    refine XS.icmpNo Xnrc4_1.here hx rfl (hb hby own_d8_16) rfl (XT.ii_ge_f (by decide : (0 : Int32) < (4 : Int32))) ?_
    refine XS.aloadN Xnrc4_1.here hx rfl (hb hby own_d8_19) rfl rfl ?_
    refine XS.iload Xnrc4_1.here hx rfl (hb hby own_d8_20) rfl ?_
    refine Xnrc4_1.baloadBooleans hx (j := (0 : Int32)) (v := (.int x_w_running_arc4_0_0)) (by rw [enrc4_1]; exact Arorc4_3.1) (State.isArrayOf_alike hZ.alike Arorc4_3.2.1) Arorc4_3.2.2 hinorc4_3 hatorc4_3 (g := (mkF m 22 #[.val (.ref arc4_0), .val (.int (0 : Int32)), .val (.ref w_running_arc4_0), .val (.int (4 : Int32)), .val (.int (0 : Int32)), .unset] [(.int (0 : Int32)), (.ref w_running_arc4_0)])) rfl rfl (hb hby own_d8_22) _ ?_
    show Steps p.tables e below (Tnrc4_1.setTop (mkF m 23 #[.val (.ref arc4_0), .val (.int (0 : Int32)), .val (.ref w_running_arc4_0), .val (.int (4 : Int32)), .val (.int (0 : Int32)), .unset] [(.int x_w_running_arc4_0_0)])) _
    refine XS.istore Xnrc4_1.here hx rfl (hb hby own_d8_23) rfl (l' := #[.val (.ref arc4_0), .val (.int (0 : Int32)), .val (.ref w_running_arc4_0), .val (.int (4 : Int32)), .val (.int (0 : Int32)), .val (.int x_w_running_arc4_0_0)]) rfl ?_
    refine XS.iload Xnrc4_1.here hx rfl (hb hby own_d8_25) rfl ?_
    refine stjrc4_4 _ ?_
    show Steps p.tables e below (Tjrc4_4.setTop (mkF m 33 #[.val (.ref arc4_0), .val (.int (own_jrc4_0 x_w_running_arc4_0_0)), .val (.ref w_running_arc4_0), .val (.int (4 : Int32)), .val (.int (0 : Int32)), .val (.int x_w_running_arc4_0_0)] [])) _
    refine XS.iinc Xjrc4_4.here hx rfl (hb hby own_d8_33) rfl (l' := #[.val (.ref arc4_0), .val (.int (own_jrc4_0 x_w_running_arc4_0_0)), .val (.ref w_running_arc4_0), .val (.int (4 : Int32)), .val (.int (1 : Int32)), .val (.int x_w_running_arc4_0_0)]) rfl ?_
    refine XS.goto Xjrc4_4.here hx rfl (pc0 := 36) (pc' := 13) rfl (hb hby own_d8_36) (by decide) (by decide) ?_
    refine XS.iload Xjrc4_4.here hx rfl (hb hby own_d8_13) rfl ?_
    refine XS.iloadN Xjrc4_4.here hx rfl (hb hby own_d8_15) rfl ?_
    refine XS.icmpNo Xjrc4_4.here hx rfl (hb hby own_d8_16) rfl (XT.ii_ge_f (by decide : (1 : Int32) < (4 : Int32))) ?_
    refine XS.aloadN Xjrc4_4.here hx rfl (hb hby own_d8_19) rfl rfl ?_
    refine XS.iload Xjrc4_4.here hx rfl (hb hby own_d8_20) rfl ?_
    refine Xjrc4_4.baloadBooleans hx (j := (1 : Int32)) (v := (.int x_w_running_arc4_0_1)) (by rw [ejrc4_4]; exact Arorc4_5.1) (State.isArrayOf_alike hZ.alike Arorc4_5.2.1) Arorc4_5.2.2 hinorc4_5 hatorc4_5 (g := (mkF m 22 #[.val (.ref arc4_0), .val (.int (own_jrc4_0 x_w_running_arc4_0_0)), .val (.ref w_running_arc4_0), .val (.int (4 : Int32)), .val (.int (1 : Int32)), .val (.int x_w_running_arc4_0_0)] [(.int (1 : Int32)), (.ref w_running_arc4_0)])) rfl rfl (hb hby own_d8_22) _ ?_
    show Steps p.tables e below (Tjrc4_4.setTop (mkF m 23 #[.val (.ref arc4_0), .val (.int (own_jrc4_0 x_w_running_arc4_0_0)), .val (.ref w_running_arc4_0), .val (.int (4 : Int32)), .val (.int (1 : Int32)), .val (.int x_w_running_arc4_0_0)] [(.int x_w_running_arc4_0_1)])) _
    refine XS.istore Xjrc4_4.here hx rfl (hb hby own_d8_23) rfl (l' := #[.val (.ref arc4_0), .val (.int (own_jrc4_0 x_w_running_arc4_0_0)), .val (.ref w_running_arc4_0), .val (.int (4 : Int32)), .val (.int (1 : Int32)), .val (.int x_w_running_arc4_0_1)]) rfl ?_
    refine XS.iload Xjrc4_4.here hx rfl (hb hby own_d8_25) rfl ?_
    refine stjrc4_6 _ ?_
    show Steps p.tables e below (Tjrc4_6.setTop (mkF m 33 #[.val (.ref arc4_0), .val (.int (own_jrc4_1 x_w_running_arc4_0_0 x_w_running_arc4_0_1)), .val (.ref w_running_arc4_0), .val (.int (4 : Int32)), .val (.int (1 : Int32)), .val (.int x_w_running_arc4_0_1)] [])) _
    refine XS.iinc Xjrc4_6.here hx rfl (hb hby own_d8_33) rfl (l' := #[.val (.ref arc4_0), .val (.int (own_jrc4_1 x_w_running_arc4_0_0 x_w_running_arc4_0_1)), .val (.ref w_running_arc4_0), .val (.int (4 : Int32)), .val (.int (2 : Int32)), .val (.int x_w_running_arc4_0_1)]) rfl ?_
    refine XS.goto Xjrc4_6.here hx rfl (pc0 := 36) (pc' := 13) rfl (hb hby own_d8_36) (by decide) (by decide) ?_
    refine XS.iload Xjrc4_6.here hx rfl (hb hby own_d8_13) rfl ?_
    refine XS.iloadN Xjrc4_6.here hx rfl (hb hby own_d8_15) rfl ?_
    refine XS.icmpNo Xjrc4_6.here hx rfl (hb hby own_d8_16) rfl (XT.ii_ge_f (by decide : (2 : Int32) < (4 : Int32))) ?_
    refine XS.aloadN Xjrc4_6.here hx rfl (hb hby own_d8_19) rfl rfl ?_
    refine XS.iload Xjrc4_6.here hx rfl (hb hby own_d8_20) rfl ?_
    refine Xjrc4_6.baloadBooleans hx (j := (2 : Int32)) (v := (.int x_w_running_arc4_0_2)) (by rw [ejrc4_6]; exact Arorc4_7.1) (State.isArrayOf_alike hZ.alike Arorc4_7.2.1) Arorc4_7.2.2 hinorc4_7 hatorc4_7 (g := (mkF m 22 #[.val (.ref arc4_0), .val (.int (own_jrc4_1 x_w_running_arc4_0_0 x_w_running_arc4_0_1)), .val (.ref w_running_arc4_0), .val (.int (4 : Int32)), .val (.int (2 : Int32)), .val (.int x_w_running_arc4_0_1)] [(.int (2 : Int32)), (.ref w_running_arc4_0)])) rfl rfl (hb hby own_d8_22) _ ?_
    show Steps p.tables e below (Tjrc4_6.setTop (mkF m 23 #[.val (.ref arc4_0), .val (.int (own_jrc4_1 x_w_running_arc4_0_0 x_w_running_arc4_0_1)), .val (.ref w_running_arc4_0), .val (.int (4 : Int32)), .val (.int (2 : Int32)), .val (.int x_w_running_arc4_0_1)] [(.int x_w_running_arc4_0_2)])) _
    refine XS.istore Xjrc4_6.here hx rfl (hb hby own_d8_23) rfl (l' := #[.val (.ref arc4_0), .val (.int (own_jrc4_1 x_w_running_arc4_0_0 x_w_running_arc4_0_1)), .val (.ref w_running_arc4_0), .val (.int (4 : Int32)), .val (.int (2 : Int32)), .val (.int x_w_running_arc4_0_2)]) rfl ?_
    refine XS.iload Xjrc4_6.here hx rfl (hb hby own_d8_25) rfl ?_
    refine stjrc4_8 _ ?_
    show Steps p.tables e below (Tjrc4_8.setTop (mkF m 33 #[.val (.ref arc4_0), .val (.int (own_jrc4_2 x_w_running_arc4_0_0 x_w_running_arc4_0_1 x_w_running_arc4_0_2)), .val (.ref w_running_arc4_0), .val (.int (4 : Int32)), .val (.int (2 : Int32)), .val (.int x_w_running_arc4_0_2)] [])) _
    refine XS.iinc Xjrc4_8.here hx rfl (hb hby own_d8_33) rfl (l' := #[.val (.ref arc4_0), .val (.int (own_jrc4_2 x_w_running_arc4_0_0 x_w_running_arc4_0_1 x_w_running_arc4_0_2)), .val (.ref w_running_arc4_0), .val (.int (4 : Int32)), .val (.int (3 : Int32)), .val (.int x_w_running_arc4_0_2)]) rfl ?_
    refine XS.goto Xjrc4_8.here hx rfl (pc0 := 36) (pc' := 13) rfl (hb hby own_d8_36) (by decide) (by decide) ?_
    refine XS.iload Xjrc4_8.here hx rfl (hb hby own_d8_13) rfl ?_
    refine XS.iloadN Xjrc4_8.here hx rfl (hb hby own_d8_15) rfl ?_
    refine XS.icmpNo Xjrc4_8.here hx rfl (hb hby own_d8_16) rfl (XT.ii_ge_f (by decide : (3 : Int32) < (4 : Int32))) ?_
    refine XS.aloadN Xjrc4_8.here hx rfl (hb hby own_d8_19) rfl rfl ?_
    refine XS.iload Xjrc4_8.here hx rfl (hb hby own_d8_20) rfl ?_
    refine Xjrc4_8.baloadBooleans hx (j := (3 : Int32)) (v := (.int x_w_running_arc4_0_3)) (by rw [ejrc4_8]; exact Arorc4_9.1) (State.isArrayOf_alike hZ.alike Arorc4_9.2.1) Arorc4_9.2.2 hinorc4_9 hatorc4_9 (g := (mkF m 22 #[.val (.ref arc4_0), .val (.int (own_jrc4_2 x_w_running_arc4_0_0 x_w_running_arc4_0_1 x_w_running_arc4_0_2)), .val (.ref w_running_arc4_0), .val (.int (4 : Int32)), .val (.int (3 : Int32)), .val (.int x_w_running_arc4_0_2)] [(.int (3 : Int32)), (.ref w_running_arc4_0)])) rfl rfl (hb hby own_d8_22) _ ?_
    show Steps p.tables e below (Tjrc4_8.setTop (mkF m 23 #[.val (.ref arc4_0), .val (.int (own_jrc4_2 x_w_running_arc4_0_0 x_w_running_arc4_0_1 x_w_running_arc4_0_2)), .val (.ref w_running_arc4_0), .val (.int (4 : Int32)), .val (.int (3 : Int32)), .val (.int x_w_running_arc4_0_2)] [(.int x_w_running_arc4_0_3)])) _
    refine XS.istore Xjrc4_8.here hx rfl (hb hby own_d8_23) rfl (l' := #[.val (.ref arc4_0), .val (.int (own_jrc4_2 x_w_running_arc4_0_0 x_w_running_arc4_0_1 x_w_running_arc4_0_2)), .val (.ref w_running_arc4_0), .val (.int (4 : Int32)), .val (.int (3 : Int32)), .val (.int x_w_running_arc4_0_3)]) rfl ?_
    refine XS.iload Xjrc4_8.here hx rfl (hb hby own_d8_25) rfl ?_
    refine stjrc4_10 _ ?_
    show Steps p.tables e below (Tjrc4_10.setTop (mkF m 33 #[.val (.ref arc4_0), .val (.int (own_jrc4_3 x_w_running_arc4_0_0 x_w_running_arc4_0_1 x_w_running_arc4_0_2 x_w_running_arc4_0_3)), .val (.ref w_running_arc4_0), .val (.int (4 : Int32)), .val (.int (3 : Int32)), .val (.int x_w_running_arc4_0_3)] [])) _
    refine XS.iinc Xjrc4_10.here hx rfl (hb hby own_d8_33) rfl (l' := #[.val (.ref arc4_0), .val (.int (own_jrc4_3 x_w_running_arc4_0_0 x_w_running_arc4_0_1 x_w_running_arc4_0_2 x_w_running_arc4_0_3)), .val (.ref w_running_arc4_0), .val (.int (4 : Int32)), .val (.int (4 : Int32)), .val (.int x_w_running_arc4_0_3)]) rfl ?_
    refine XS.goto Xjrc4_10.here hx rfl (pc0 := 36) (pc' := 13) rfl (hb hby own_d8_36) (by decide) (by decide) ?_
    refine XS.iload Xjrc4_10.here hx rfl (hb hby own_d8_13) rfl ?_
    refine XS.iloadN Xjrc4_10.here hx rfl (hb hby own_d8_15) rfl ?_
    refine XS.icmpYes Xjrc4_10.here hx rfl (pc0 := 16) (pc' := 39) rfl (hb hby own_d8_16) rfl (XT.ii_ge_t (by decide : ¬ ((4 : Int32) < (4 : Int32)))) (by decide) (by decide) ?_
    refine XS.iloadN Xjrc4_10.here hx rfl (hb hby own_d8_39) rfl ?_
    show Steps p.tables e below (Tjrc4_10.setTop (mkF m 40 #[.val (.ref arc4_0), .val (.int (own_jrc4_3 x_w_running_arc4_0_0 x_w_running_arc4_0_1 x_w_running_arc4_0_2 x_w_running_arc4_0_3)), .val (.ref w_running_arc4_0), .val (.int (4 : Int32)), .val (.int (4 : Int32)), .val (.int x_w_running_arc4_0_3)] [(.int (own_jrc4_3 x_w_running_arc4_0_0 x_w_running_arc4_0_1 x_w_running_arc4_0_2 x_w_running_arc4_0_3))])) _
    exact retI Xjrc4_10 hx Bd.returns (hb hby own_d8_40) hr
  · show own_Qrc4 Z arc4_0 w_running_arc4_0 k_w_running_arc4_0 x_w_running_arc4_0_0 x_w_running_arc4_0_1 x_w_running_arc4_0_2 x_w_running_arc4_0_3 h0 n0 _ Tjrc4_10.heap _
    rw [ejrc4_10]
    exact ⟨rfl, Njrc4_10, rfl⟩
def own_jrc5_0 (x_w_running_arc5_0_0 : Int32) : Int32 := if x_w_running_arc5_0_0 = (0 : Int32) then (0 : Int32) else (1 : Int32)
def own_jrc5_1 (x_w_running_arc5_0_0 : Int32) (x_w_running_arc5_0_1 : Int32) : Int32 := if x_w_running_arc5_0_1 = (0 : Int32) then (own_jrc5_0 x_w_running_arc5_0_0) else ((own_jrc5_0 x_w_running_arc5_0_0) + (1 : Int32))
def own_jrc5_2 (x_w_running_arc5_0_0 : Int32) (x_w_running_arc5_0_1 : Int32) (x_w_running_arc5_0_2 : Int32) : Int32 := if x_w_running_arc5_0_2 = (0 : Int32) then (own_jrc5_1 x_w_running_arc5_0_0 x_w_running_arc5_0_1) else ((own_jrc5_1 x_w_running_arc5_0_0 x_w_running_arc5_0_1) + (1 : Int32))
def own_jrc5_3 (x_w_running_arc5_0_0 : Int32) (x_w_running_arc5_0_1 : Int32) (x_w_running_arc5_0_2 : Int32) (x_w_running_arc5_0_3 : Int32) : Int32 := if x_w_running_arc5_0_3 = (0 : Int32) then (own_jrc5_2 x_w_running_arc5_0_0 x_w_running_arc5_0_1 x_w_running_arc5_0_2) else ((own_jrc5_2 x_w_running_arc5_0_0 x_w_running_arc5_0_1 x_w_running_arc5_0_2) + (1 : Int32))
def own_jrc5_4 (x_w_running_arc5_0_0 : Int32) (x_w_running_arc5_0_1 : Int32) (x_w_running_arc5_0_2 : Int32) (x_w_running_arc5_0_3 : Int32) (x_w_running_arc5_0_4 : Int32) : Int32 := if x_w_running_arc5_0_4 = (0 : Int32) then (own_jrc5_3 x_w_running_arc5_0_0 x_w_running_arc5_0_1 x_w_running_arc5_0_2 x_w_running_arc5_0_3) else ((own_jrc5_3 x_w_running_arc5_0_0 x_w_running_arc5_0_1 x_w_running_arc5_0_2 x_w_running_arc5_0_3) + (1 : Int32))
def own_rrc5_5 (x_w_running_arc5_0_0 : Int32) (x_w_running_arc5_0_1 : Int32) (x_w_running_arc5_0_2 : Int32) (x_w_running_arc5_0_3 : Int32) (x_w_running_arc5_0_4 : Int32) : Int32 := (own_jrc5_4 x_w_running_arc5_0_0 x_w_running_arc5_0_1 x_w_running_arc5_0_2 x_w_running_arc5_0_3 x_w_running_arc5_0_4)
theorem own_efrc5 (m : MethodId) (arc5_0 : Addr) : entryFrame m #[(.ref arc5_0)] 6 = mkF m 0 #[.val (.ref arc5_0), .unset, .unset, .unset, .unset, .unset] [] := by first | (simp [entryFrame, mkF, argsToLocals, Value.category]; done) | rfl
def own_Qrc5 (Z : State) (arc5_0 : Addr) (w_running_arc5_0 : Addr) (k_w_running_arc5_0 : ClassId) (x_w_running_arc5_0_0 : Int32) (x_w_running_arc5_0_1 : Int32) (x_w_running_arc5_0_2 : Int32) (x_w_running_arc5_0_3 : Int32) (x_w_running_arc5_0_4 : Int32) (h0 : Heap) (n0 : Nat) (v : Option Value) (h : Heap) (L : List Loc) : Prop := v = some (.int (own_rrc5_5 x_w_running_arc5_0_0 x_w_running_arc5_0_1 x_w_running_arc5_0_2 x_w_running_arc5_0_3 x_w_running_arc5_0_4)) ∧ Fr n0 L ∧ h = h0
set_option maxRecDepth 65536 in
set_option maxHeartbeats 40000000 in
theorem own_rmrc5 (l : Launch) (Z : State) (a0 : Array Value) (hw : ∀ d ∈ tables_1, d.before a0 Z = true) (ws : List Jvm.Cond) (arc5_0 : Addr) (w_running_arc5_0 : Addr) (k_w_running_arc5_0 : ClassId) (x_w_running_arc5_0_0 : Int32) (x_w_running_arc5_0_1 : Int32) (x_w_running_arc5_0_2 : Int32) (x_w_running_arc5_0_3 : Int32) (x_w_running_arc5_0_4 : Int32) (h0 : Heap) (n0 : Nat) (Z0 : n0 ≤ h0.size) (F_running_arc5_0 : Fld Z h0 arc5_0 "com/example/arborway/arborway/sim/RunTally$Walk" "running" "[Z" (.ref w_running_arc5_0)) (V_w_running_arc5_0 : Arv Z h0 w_running_arc5_0 k_w_running_arc5_0 .boolean (5 : Int32) [(.int x_w_running_arc5_0_0), (.int x_w_running_arc5_0_1), (.int x_w_running_arc5_0_2), (.int x_w_running_arc5_0_3), (.int x_w_running_arc5_0_4)] (.int (0 : Int32))) :
    MetFree l (⟨"com/example/arborway/arborway/sim/RunTally$Walk", "runningCount", "()I"⟩ : MethodName) (head1 (Jvm.Cond.code (⟨"com/example/arborway/arborway/sim/RunTally$Walk", "runningCount", "()I"⟩ : MethodName) prog_76_method_5_code 6 (some .int) :: ws) ({ frames := 0, cells := 0, slots := 0, locals := 0 } : Room)) (fun a U => a = #[(.ref arc5_0)] ∧ Z.Warmed39 U.vm ∧ U.heap = h0) (fun _ _ _ _ _ => True) (fun _ U o U' => ∃ v L, o = .returned v ∧ own_Qrc5 Z arc5_0 w_running_arc5_0 k_w_running_arc5_0 x_w_running_arc5_0_0 x_w_running_arc5_0_1 x_w_running_arc5_0_2 x_w_running_arc5_0_3 x_w_running_arc5_0_4 h0 n0 v U'.heap L ∧ FrameEnd U o U' L ({ frames := 0, cells := 0, slots := 0, locals := 0 } : Room).cells ({ frames := 0, cells := 0, slots := 0, locals := 0 } : Room).slots) := by
  refine MetFree.of_bodySF (plainFor_of_name own_pn2) hisR ?_
  intro p e s m args below meth c s₁ Bd hml0 hP hK
  obtain ⟨rfl, hZ, hh⟩ := hP
  have hx := Bd.exec
  have hby := Bd.bytes
  have hml : c.maxLocals = 6 := hml0
  have hown : s.vm.findClass "com/example/arborway/arborway/sim/RunTally$Walk" = some m.cls := findClass_of_methodNamed Bd.named
  have hnm := (name_of_methodNamed Bd.named Bd.method).1
  have X0 : Stand p l e ({ frames := 0, cells := 0, slots := 0, locals := 0 } : Room) s m #[(.ref arc5_0)] below meth c s₁ [] 0 0 := Stand.of_body Bd
  have e0 : s₁.heap = h0 := by rw [← hh, Bd.state]; rfl
  have N0 := Fr.nil n0
  have Zr : h0.size ≤ h0.size := Nat.le_refl _
  have pre0 : ∀ t, Steps p.tables e below (s₁.setTop (mkF m 0 #[.val (.ref arc5_0), .unset, .unset, .unset, .unset, .unset] [])) t → Steps p.tables e below (s₁.setTop (entryFrame m #[(.ref arc5_0)] 6)) t := fun t k => castTop (own_efrc5 m arc5_0) k
  obtain ⟨Tnrc5_1, Xnrc5_1, enrc5_1, stnrc5_1⟩ := getF X0 hx hZ hown (host := "") (Or.inl (own_W hw 35 rfl)) Via.refl e0 F_running_arc5_0 (g := (mkF m 3 #[.val (.ref arc5_0), .val (.int (0 : Int32)), .unset, .unset, .unset, .unset] [(.ref arc5_0)])) rfl rfl (hb hby own_d8_3)
  have Oorc5_2 := V_w_running_arc5_0
  obtain ⟨clorc5_2, Arorc5_2, qorc5_2, Sorc5_2, Norc5_2, Horc5_2, Gorc5_2⟩ := Oorc5_2
  have Oorc5_3 := V_w_running_arc5_0
  obtain ⟨clorc5_3, Arorc5_3, qorc5_3, Sorc5_3, Norc5_3, Horc5_3, Gorc5_3⟩ := Oorc5_3
  have hinorc5_3 : ¬ ((0 : Int32) < 0 ∨ clorc5_3.slots.size ≤ ((0 : Int32)).toNatClampNeg) := inb_of Sorc5_3 ⟨by decide, by decide⟩
  have hatorc5_3 : clorc5_3.slots[((0 : Int32)).toNatClampNeg]? = some (.int x_w_running_arc5_0_0) := Horc5_3.at hinorc5_3 rfl
  obtain ⟨Tjrc5_4, ljrc5_4, Xjrc5_4, Njrc5_4, ejrc5_4, stjrc5_4⟩ : ∃ (T' : State) (l' : List Loc), Stand p l e ({ frames := 0, cells := 0, slots := 0, locals := 0 } : Room) s m #[(.ref arc5_0)] below meth c T' l' 0 0 ∧ Fr n0 l' ∧ T'.heap = h0 ∧ ∀ target, Steps p.tables e below (T'.setTop (mkF m 33 #[.val (.ref arc5_0), .val (.int (own_jrc5_0 x_w_running_arc5_0_0)), .val (.ref w_running_arc5_0), .val (.int (5 : Int32)), .val (.int (0 : Int32)), .val (.int x_w_running_arc5_0_0)] [])) target → Steps p.tables e below (Tnrc5_1.setTop (mkF m 27 #[.val (.ref arc5_0), .val (.int (0 : Int32)), .val (.ref w_running_arc5_0), .val (.int (5 : Int32)), .val (.int (0 : Int32)), .val (.int x_w_running_arc5_0_0)] [(.int x_w_running_arc5_0_0)])) target := by
    by_cases hjrc5_4 : x_w_running_arc5_0_0 = (0 : Int32)
    · refine ⟨_, _, Xnrc5_1, N0, enrc5_1, fun target kt => ?_⟩
      rw [(show (own_jrc5_0 x_w_running_arc5_0_0) = (0 : Int32) from if_pos hjrc5_4)] at kt
      show Steps p.tables e below (Tnrc5_1.setTop (mkF m 27 #[.val (.ref arc5_0), .val (.int (0 : Int32)), .val (.ref w_running_arc5_0), .val (.int (5 : Int32)), .val (.int (0 : Int32)), .val (.int x_w_running_arc5_0_0)] [(.int x_w_running_arc5_0_0)])) _
      refine XS.ifYes Xnrc5_1.here hx rfl (pc0 := 27) (pc' := 33) rfl (hb hby own_d8_27) rfl (XT.i0_eq_t hjrc5_4) (by decide) (by decide) ?_
      exact kt
    · refine ⟨_, _, Xnrc5_1, N0, enrc5_1, fun target kt => ?_⟩
      rw [(show (own_jrc5_0 x_w_running_arc5_0_0) = (1 : Int32) from if_neg hjrc5_4)] at kt
      show Steps p.tables e below (Tnrc5_1.setTop (mkF m 27 #[.val (.ref arc5_0), .val (.int (0 : Int32)), .val (.ref w_running_arc5_0), .val (.int (5 : Int32)), .val (.int (0 : Int32)), .val (.int x_w_running_arc5_0_0)] [(.int x_w_running_arc5_0_0)])) _
      refine XS.ifNo Xnrc5_1.here hx rfl (hb hby own_d8_27) rfl (XT.i0_eq_f hjrc5_4) ?_
      refine XS.iinc Xnrc5_1.here hx rfl (hb hby own_d8_30) rfl (l' := #[.val (.ref arc5_0), .val (.int (1 : Int32)), .val (.ref w_running_arc5_0), .val (.int (5 : Int32)), .val (.int (0 : Int32)), .val (.int x_w_running_arc5_0_0)]) rfl ?_
      exact kt
  have Oorc5_5 := V_w_running_arc5_0
  obtain ⟨clorc5_5, Arorc5_5, qorc5_5, Sorc5_5, Norc5_5, Horc5_5, Gorc5_5⟩ := Oorc5_5
  have hinorc5_5 : ¬ ((1 : Int32) < 0 ∨ clorc5_5.slots.size ≤ ((1 : Int32)).toNatClampNeg) := inb_of Sorc5_5 ⟨by decide, by decide⟩
  have hatorc5_5 : clorc5_5.slots[((1 : Int32)).toNatClampNeg]? = some (.int x_w_running_arc5_0_1) := Horc5_5.at hinorc5_5 rfl
  obtain ⟨Tjrc5_6, ljrc5_6, Xjrc5_6, Njrc5_6, ejrc5_6, stjrc5_6⟩ : ∃ (T' : State) (l' : List Loc), Stand p l e ({ frames := 0, cells := 0, slots := 0, locals := 0 } : Room) s m #[(.ref arc5_0)] below meth c T' l' 0 0 ∧ Fr n0 l' ∧ T'.heap = h0 ∧ ∀ target, Steps p.tables e below (T'.setTop (mkF m 33 #[.val (.ref arc5_0), .val (.int (own_jrc5_1 x_w_running_arc5_0_0 x_w_running_arc5_0_1)), .val (.ref w_running_arc5_0), .val (.int (5 : Int32)), .val (.int (1 : Int32)), .val (.int x_w_running_arc5_0_1)] [])) target → Steps p.tables e below (Tjrc5_4.setTop (mkF m 27 #[.val (.ref arc5_0), .val (.int (own_jrc5_0 x_w_running_arc5_0_0)), .val (.ref w_running_arc5_0), .val (.int (5 : Int32)), .val (.int (1 : Int32)), .val (.int x_w_running_arc5_0_1)] [(.int x_w_running_arc5_0_1)])) target := by
    by_cases hjrc5_6 : x_w_running_arc5_0_1 = (0 : Int32)
    · refine ⟨_, _, Xjrc5_4, Njrc5_4, ejrc5_4, fun target kt => ?_⟩
      rw [(show (own_jrc5_1 x_w_running_arc5_0_0 x_w_running_arc5_0_1) = (own_jrc5_0 x_w_running_arc5_0_0) from if_pos hjrc5_6)] at kt
      show Steps p.tables e below (Tjrc5_4.setTop (mkF m 27 #[.val (.ref arc5_0), .val (.int (own_jrc5_0 x_w_running_arc5_0_0)), .val (.ref w_running_arc5_0), .val (.int (5 : Int32)), .val (.int (1 : Int32)), .val (.int x_w_running_arc5_0_1)] [(.int x_w_running_arc5_0_1)])) _
      refine XS.ifYes Xjrc5_4.here hx rfl (pc0 := 27) (pc' := 33) rfl (hb hby own_d8_27) rfl (XT.i0_eq_t hjrc5_6) (by decide) (by decide) ?_
      exact kt
    · refine ⟨_, _, Xjrc5_4, Njrc5_4, ejrc5_4, fun target kt => ?_⟩
      rw [(show (own_jrc5_1 x_w_running_arc5_0_0 x_w_running_arc5_0_1) = ((own_jrc5_0 x_w_running_arc5_0_0) + (1 : Int32)) from if_neg hjrc5_6)] at kt
      show Steps p.tables e below (Tjrc5_4.setTop (mkF m 27 #[.val (.ref arc5_0), .val (.int (own_jrc5_0 x_w_running_arc5_0_0)), .val (.ref w_running_arc5_0), .val (.int (5 : Int32)), .val (.int (1 : Int32)), .val (.int x_w_running_arc5_0_1)] [(.int x_w_running_arc5_0_1)])) _
      refine XS.ifNo Xjrc5_4.here hx rfl (hb hby own_d8_27) rfl (XT.i0_eq_f hjrc5_6) ?_
      refine XS.iinc Xjrc5_4.here hx rfl (hb hby own_d8_30) rfl (l' := #[.val (.ref arc5_0), .val (.int ((own_jrc5_0 x_w_running_arc5_0_0) + (1 : Int32))), .val (.ref w_running_arc5_0), .val (.int (5 : Int32)), .val (.int (1 : Int32)), .val (.int x_w_running_arc5_0_1)]) rfl ?_
      exact kt
  have Oorc5_7 := V_w_running_arc5_0
  obtain ⟨clorc5_7, Arorc5_7, qorc5_7, Sorc5_7, Norc5_7, Horc5_7, Gorc5_7⟩ := Oorc5_7
  have hinorc5_7 : ¬ ((2 : Int32) < 0 ∨ clorc5_7.slots.size ≤ ((2 : Int32)).toNatClampNeg) := inb_of Sorc5_7 ⟨by decide, by decide⟩
  have hatorc5_7 : clorc5_7.slots[((2 : Int32)).toNatClampNeg]? = some (.int x_w_running_arc5_0_2) := Horc5_7.at hinorc5_7 rfl
  obtain ⟨Tjrc5_8, ljrc5_8, Xjrc5_8, Njrc5_8, ejrc5_8, stjrc5_8⟩ : ∃ (T' : State) (l' : List Loc), Stand p l e ({ frames := 0, cells := 0, slots := 0, locals := 0 } : Room) s m #[(.ref arc5_0)] below meth c T' l' 0 0 ∧ Fr n0 l' ∧ T'.heap = h0 ∧ ∀ target, Steps p.tables e below (T'.setTop (mkF m 33 #[.val (.ref arc5_0), .val (.int (own_jrc5_2 x_w_running_arc5_0_0 x_w_running_arc5_0_1 x_w_running_arc5_0_2)), .val (.ref w_running_arc5_0), .val (.int (5 : Int32)), .val (.int (2 : Int32)), .val (.int x_w_running_arc5_0_2)] [])) target → Steps p.tables e below (Tjrc5_6.setTop (mkF m 27 #[.val (.ref arc5_0), .val (.int (own_jrc5_1 x_w_running_arc5_0_0 x_w_running_arc5_0_1)), .val (.ref w_running_arc5_0), .val (.int (5 : Int32)), .val (.int (2 : Int32)), .val (.int x_w_running_arc5_0_2)] [(.int x_w_running_arc5_0_2)])) target := by
    by_cases hjrc5_8 : x_w_running_arc5_0_2 = (0 : Int32)
    · refine ⟨_, _, Xjrc5_6, Njrc5_6, ejrc5_6, fun target kt => ?_⟩
      rw [(show (own_jrc5_2 x_w_running_arc5_0_0 x_w_running_arc5_0_1 x_w_running_arc5_0_2) = (own_jrc5_1 x_w_running_arc5_0_0 x_w_running_arc5_0_1) from if_pos hjrc5_8)] at kt
      show Steps p.tables e below (Tjrc5_6.setTop (mkF m 27 #[.val (.ref arc5_0), .val (.int (own_jrc5_1 x_w_running_arc5_0_0 x_w_running_arc5_0_1)), .val (.ref w_running_arc5_0), .val (.int (5 : Int32)), .val (.int (2 : Int32)), .val (.int x_w_running_arc5_0_2)] [(.int x_w_running_arc5_0_2)])) _
      refine XS.ifYes Xjrc5_6.here hx rfl (pc0 := 27) (pc' := 33) rfl (hb hby own_d8_27) rfl (XT.i0_eq_t hjrc5_8) (by decide) (by decide) ?_
      exact kt
    · refine ⟨_, _, Xjrc5_6, Njrc5_6, ejrc5_6, fun target kt => ?_⟩
      rw [(show (own_jrc5_2 x_w_running_arc5_0_0 x_w_running_arc5_0_1 x_w_running_arc5_0_2) = ((own_jrc5_1 x_w_running_arc5_0_0 x_w_running_arc5_0_1) + (1 : Int32)) from if_neg hjrc5_8)] at kt
      show Steps p.tables e below (Tjrc5_6.setTop (mkF m 27 #[.val (.ref arc5_0), .val (.int (own_jrc5_1 x_w_running_arc5_0_0 x_w_running_arc5_0_1)), .val (.ref w_running_arc5_0), .val (.int (5 : Int32)), .val (.int (2 : Int32)), .val (.int x_w_running_arc5_0_2)] [(.int x_w_running_arc5_0_2)])) _
      refine XS.ifNo Xjrc5_6.here hx rfl (hb hby own_d8_27) rfl (XT.i0_eq_f hjrc5_8) ?_
      refine XS.iinc Xjrc5_6.here hx rfl (hb hby own_d8_30) rfl (l' := #[.val (.ref arc5_0), .val (.int ((own_jrc5_1 x_w_running_arc5_0_0 x_w_running_arc5_0_1) + (1 : Int32))), .val (.ref w_running_arc5_0), .val (.int (5 : Int32)), .val (.int (2 : Int32)), .val (.int x_w_running_arc5_0_2)]) rfl ?_
      exact kt
  have Oorc5_9 := V_w_running_arc5_0
  obtain ⟨clorc5_9, Arorc5_9, qorc5_9, Sorc5_9, Norc5_9, Horc5_9, Gorc5_9⟩ := Oorc5_9
  have hinorc5_9 : ¬ ((3 : Int32) < 0 ∨ clorc5_9.slots.size ≤ ((3 : Int32)).toNatClampNeg) := inb_of Sorc5_9 ⟨by decide, by decide⟩
  have hatorc5_9 : clorc5_9.slots[((3 : Int32)).toNatClampNeg]? = some (.int x_w_running_arc5_0_3) := Horc5_9.at hinorc5_9 rfl
  obtain ⟨Tjrc5_10, ljrc5_10, Xjrc5_10, Njrc5_10, ejrc5_10, stjrc5_10⟩ : ∃ (T' : State) (l' : List Loc), Stand p l e ({ frames := 0, cells := 0, slots := 0, locals := 0 } : Room) s m #[(.ref arc5_0)] below meth c T' l' 0 0 ∧ Fr n0 l' ∧ T'.heap = h0 ∧ ∀ target, Steps p.tables e below (T'.setTop (mkF m 33 #[.val (.ref arc5_0), .val (.int (own_jrc5_3 x_w_running_arc5_0_0 x_w_running_arc5_0_1 x_w_running_arc5_0_2 x_w_running_arc5_0_3)), .val (.ref w_running_arc5_0), .val (.int (5 : Int32)), .val (.int (3 : Int32)), .val (.int x_w_running_arc5_0_3)] [])) target → Steps p.tables e below (Tjrc5_8.setTop (mkF m 27 #[.val (.ref arc5_0), .val (.int (own_jrc5_2 x_w_running_arc5_0_0 x_w_running_arc5_0_1 x_w_running_arc5_0_2)), .val (.ref w_running_arc5_0), .val (.int (5 : Int32)), .val (.int (3 : Int32)), .val (.int x_w_running_arc5_0_3)] [(.int x_w_running_arc5_0_3)])) target := by
    by_cases hjrc5_10 : x_w_running_arc5_0_3 = (0 : Int32)
    · refine ⟨_, _, Xjrc5_8, Njrc5_8, ejrc5_8, fun target kt => ?_⟩
      rw [(show (own_jrc5_3 x_w_running_arc5_0_0 x_w_running_arc5_0_1 x_w_running_arc5_0_2 x_w_running_arc5_0_3) = (own_jrc5_2 x_w_running_arc5_0_0 x_w_running_arc5_0_1 x_w_running_arc5_0_2) from if_pos hjrc5_10)] at kt
      show Steps p.tables e below (Tjrc5_8.setTop (mkF m 27 #[.val (.ref arc5_0), .val (.int (own_jrc5_2 x_w_running_arc5_0_0 x_w_running_arc5_0_1 x_w_running_arc5_0_2)), .val (.ref w_running_arc5_0), .val (.int (5 : Int32)), .val (.int (3 : Int32)), .val (.int x_w_running_arc5_0_3)] [(.int x_w_running_arc5_0_3)])) _
      refine XS.ifYes Xjrc5_8.here hx rfl (pc0 := 27) (pc' := 33) rfl (hb hby own_d8_27) rfl (XT.i0_eq_t hjrc5_10) (by decide) (by decide) ?_
      exact kt
    · refine ⟨_, _, Xjrc5_8, Njrc5_8, ejrc5_8, fun target kt => ?_⟩
      rw [(show (own_jrc5_3 x_w_running_arc5_0_0 x_w_running_arc5_0_1 x_w_running_arc5_0_2 x_w_running_arc5_0_3) = ((own_jrc5_2 x_w_running_arc5_0_0 x_w_running_arc5_0_1 x_w_running_arc5_0_2) + (1 : Int32)) from if_neg hjrc5_10)] at kt
      show Steps p.tables e below (Tjrc5_8.setTop (mkF m 27 #[.val (.ref arc5_0), .val (.int (own_jrc5_2 x_w_running_arc5_0_0 x_w_running_arc5_0_1 x_w_running_arc5_0_2)), .val (.ref w_running_arc5_0), .val (.int (5 : Int32)), .val (.int (3 : Int32)), .val (.int x_w_running_arc5_0_3)] [(.int x_w_running_arc5_0_3)])) _
      refine XS.ifNo Xjrc5_8.here hx rfl (hb hby own_d8_27) rfl (XT.i0_eq_f hjrc5_10) ?_
      refine XS.iinc Xjrc5_8.here hx rfl (hb hby own_d8_30) rfl (l' := #[.val (.ref arc5_0), .val (.int ((own_jrc5_2 x_w_running_arc5_0_0 x_w_running_arc5_0_1 x_w_running_arc5_0_2) + (1 : Int32))), .val (.ref w_running_arc5_0), .val (.int (5 : Int32)), .val (.int (3 : Int32)), .val (.int x_w_running_arc5_0_3)]) rfl ?_
      exact kt
  have Oorc5_11 := V_w_running_arc5_0
  obtain ⟨clorc5_11, Arorc5_11, qorc5_11, Sorc5_11, Norc5_11, Horc5_11, Gorc5_11⟩ := Oorc5_11
  have hinorc5_11 : ¬ ((4 : Int32) < 0 ∨ clorc5_11.slots.size ≤ ((4 : Int32)).toNatClampNeg) := inb_of Sorc5_11 ⟨by decide, by decide⟩
  have hatorc5_11 : clorc5_11.slots[((4 : Int32)).toNatClampNeg]? = some (.int x_w_running_arc5_0_4) := Horc5_11.at hinorc5_11 rfl
  obtain ⟨Tjrc5_12, ljrc5_12, Xjrc5_12, Njrc5_12, ejrc5_12, stjrc5_12⟩ : ∃ (T' : State) (l' : List Loc), Stand p l e ({ frames := 0, cells := 0, slots := 0, locals := 0 } : Room) s m #[(.ref arc5_0)] below meth c T' l' 0 0 ∧ Fr n0 l' ∧ T'.heap = h0 ∧ ∀ target, Steps p.tables e below (T'.setTop (mkF m 33 #[.val (.ref arc5_0), .val (.int (own_jrc5_4 x_w_running_arc5_0_0 x_w_running_arc5_0_1 x_w_running_arc5_0_2 x_w_running_arc5_0_3 x_w_running_arc5_0_4)), .val (.ref w_running_arc5_0), .val (.int (5 : Int32)), .val (.int (4 : Int32)), .val (.int x_w_running_arc5_0_4)] [])) target → Steps p.tables e below (Tjrc5_10.setTop (mkF m 27 #[.val (.ref arc5_0), .val (.int (own_jrc5_3 x_w_running_arc5_0_0 x_w_running_arc5_0_1 x_w_running_arc5_0_2 x_w_running_arc5_0_3)), .val (.ref w_running_arc5_0), .val (.int (5 : Int32)), .val (.int (4 : Int32)), .val (.int x_w_running_arc5_0_4)] [(.int x_w_running_arc5_0_4)])) target := by
    by_cases hjrc5_12 : x_w_running_arc5_0_4 = (0 : Int32)
    · refine ⟨_, _, Xjrc5_10, Njrc5_10, ejrc5_10, fun target kt => ?_⟩
      rw [(show (own_jrc5_4 x_w_running_arc5_0_0 x_w_running_arc5_0_1 x_w_running_arc5_0_2 x_w_running_arc5_0_3 x_w_running_arc5_0_4) = (own_jrc5_3 x_w_running_arc5_0_0 x_w_running_arc5_0_1 x_w_running_arc5_0_2 x_w_running_arc5_0_3) from if_pos hjrc5_12)] at kt
      show Steps p.tables e below (Tjrc5_10.setTop (mkF m 27 #[.val (.ref arc5_0), .val (.int (own_jrc5_3 x_w_running_arc5_0_0 x_w_running_arc5_0_1 x_w_running_arc5_0_2 x_w_running_arc5_0_3)), .val (.ref w_running_arc5_0), .val (.int (5 : Int32)), .val (.int (4 : Int32)), .val (.int x_w_running_arc5_0_4)] [(.int x_w_running_arc5_0_4)])) _
      refine XS.ifYes Xjrc5_10.here hx rfl (pc0 := 27) (pc' := 33) rfl (hb hby own_d8_27) rfl (XT.i0_eq_t hjrc5_12) (by decide) (by decide) ?_
      exact kt
    · refine ⟨_, _, Xjrc5_10, Njrc5_10, ejrc5_10, fun target kt => ?_⟩
      rw [(show (own_jrc5_4 x_w_running_arc5_0_0 x_w_running_arc5_0_1 x_w_running_arc5_0_2 x_w_running_arc5_0_3 x_w_running_arc5_0_4) = ((own_jrc5_3 x_w_running_arc5_0_0 x_w_running_arc5_0_1 x_w_running_arc5_0_2 x_w_running_arc5_0_3) + (1 : Int32)) from if_neg hjrc5_12)] at kt
      show Steps p.tables e below (Tjrc5_10.setTop (mkF m 27 #[.val (.ref arc5_0), .val (.int (own_jrc5_3 x_w_running_arc5_0_0 x_w_running_arc5_0_1 x_w_running_arc5_0_2 x_w_running_arc5_0_3)), .val (.ref w_running_arc5_0), .val (.int (5 : Int32)), .val (.int (4 : Int32)), .val (.int x_w_running_arc5_0_4)] [(.int x_w_running_arc5_0_4)])) _
      refine XS.ifNo Xjrc5_10.here hx rfl (hb hby own_d8_27) rfl (XT.i0_eq_f hjrc5_12) ?_
      refine XS.iinc Xjrc5_10.here hx rfl (hb hby own_d8_30) rfl (l' := #[.val (.ref arc5_0), .val (.int ((own_jrc5_3 x_w_running_arc5_0_0 x_w_running_arc5_0_1 x_w_running_arc5_0_2 x_w_running_arc5_0_3) + (1 : Int32))), .val (.ref w_running_arc5_0), .val (.int (5 : Int32)), .val (.int (4 : Int32)), .val (.int x_w_running_arc5_0_4)]) rfl ?_
      exact kt
  obtain ⟨fs, hr, hrun, hended, hW, hsame⟩ := Xjrc5_12.leave (v := some (.int (own_jrc5_4 x_w_running_arc5_0_0 x_w_running_arc5_0_1 x_w_running_arc5_0_2 x_w_running_arc5_0_3 x_w_running_arc5_0_4))) (fun h => by rw [Bd.returns] at h; cases h)
  refine ⟨_, _, pre0 _ (?_), hrun, hended, _, _, rfl, ?_, ⟨_, rfl⟩, hW, hsame.mono (by decide) (by decide)⟩
  · show Steps p.tables e below (s₁.setTop (mkF m 0 #[.val (.ref arc5_0), .unset, .unset, .unset, .unset, .unset] [])) _
    refine XS.iconst X0.here hx rfl (hb hby own_d8_0) ?_
    refine XS.istoreN X0.here hx rfl (hb hby own_d8_1) rfl (l' := #[.val (.ref arc5_0), .val (.int (0 : Int32)), .unset, .unset, .unset, .unset]) rfl ?_
    refine XS.aloadN X0.here hx rfl (hb hby own_d8_2) rfl rfl ?_
    refine stnrc5_1 _ ?_
    show Steps p.tables e below (Tnrc5_1.setTop (mkF m 6 #[.val (.ref arc5_0), .val (.int (0 : Int32)), .unset, .unset, .unset, .unset] [(.ref w_running_arc5_0)])) _
    refine XS.astoreN Xnrc5_1.here hx rfl (hb hby own_d8_6) rfl rfl (l' := #[.val (.ref arc5_0), .val (.int (0 : Int32)), .val (.ref w_running_arc5_0), .unset, .unset, .unset]) rfl ?_
    refine XS.aloadN Xnrc5_1.here hx rfl (hb hby own_d8_7) rfl rfl ?_
    refine Xnrc5_1.arraylength hx (by rw [enrc5_1]; exact Arorc5_2.1) (State.isArrayOf_alike hZ.alike Arorc5_2.2.1) (g := (mkF m 8 #[.val (.ref arc5_0), .val (.int (0 : Int32)), .val (.ref w_running_arc5_0), .unset, .unset, .unset] [(.ref w_running_arc5_0)])) rfl rfl (hb hby own_d8_8) _ ?_
    rw [len_of Sorc5_2 Norc5_2]
    show Steps p.tables e below (Tnrc5_1.setTop (mkF m 9 #[.val (.ref arc5_0), .val (.int (0 : Int32)), .val (.ref w_running_arc5_0), .unset, .unset, .unset] [(.int (5 : Int32))])) _
    refine XS.istoreN Xnrc5_1.here hx rfl (hb hby own_d8_9) rfl (l' := #[.val (.ref arc5_0), .val (.int (0 : Int32)), .val (.ref w_running_arc5_0), .val (.int (5 : Int32)), .unset, .unset]) rfl ?_
    refine XS.iconst Xnrc5_1.here hx rfl (hb hby own_d8_10) ?_
    refine XS.istore Xnrc5_1.here hx rfl (hb hby own_d8_11) rfl (l' := #[.val (.ref arc5_0), .val (.int (0 : Int32)), .val (.ref w_running_arc5_0), .val (.int (5 : Int32)), .val (.int (0 : Int32)), .unset]) rfl ?_
    refine XS.iload Xnrc5_1.here hx rfl (hb hby own_d8_13) rfl ?_
    refine XS.iloadN Xnrc5_1.here hx rfl (hb hby own_d8_15) rfl ?_
    refine XS.icmpNo Xnrc5_1.here hx rfl (hb hby own_d8_16) rfl (XT.ii_ge_f (by decide : (0 : Int32) < (5 : Int32))) ?_
    refine XS.aloadN Xnrc5_1.here hx rfl (hb hby own_d8_19) rfl rfl ?_
    refine XS.iload Xnrc5_1.here hx rfl (hb hby own_d8_20) rfl ?_
    refine Xnrc5_1.baloadBooleans hx (j := (0 : Int32)) (v := (.int x_w_running_arc5_0_0)) (by rw [enrc5_1]; exact Arorc5_3.1) (State.isArrayOf_alike hZ.alike Arorc5_3.2.1) Arorc5_3.2.2 hinorc5_3 hatorc5_3 (g := (mkF m 22 #[.val (.ref arc5_0), .val (.int (0 : Int32)), .val (.ref w_running_arc5_0), .val (.int (5 : Int32)), .val (.int (0 : Int32)), .unset] [(.int (0 : Int32)), (.ref w_running_arc5_0)])) rfl rfl (hb hby own_d8_22) _ ?_
    show Steps p.tables e below (Tnrc5_1.setTop (mkF m 23 #[.val (.ref arc5_0), .val (.int (0 : Int32)), .val (.ref w_running_arc5_0), .val (.int (5 : Int32)), .val (.int (0 : Int32)), .unset] [(.int x_w_running_arc5_0_0)])) _
    refine XS.istore Xnrc5_1.here hx rfl (hb hby own_d8_23) rfl (l' := #[.val (.ref arc5_0), .val (.int (0 : Int32)), .val (.ref w_running_arc5_0), .val (.int (5 : Int32)), .val (.int (0 : Int32)), .val (.int x_w_running_arc5_0_0)]) rfl ?_
    refine XS.iload Xnrc5_1.here hx rfl (hb hby own_d8_25) rfl ?_
    refine stjrc5_4 _ ?_
    show Steps p.tables e below (Tjrc5_4.setTop (mkF m 33 #[.val (.ref arc5_0), .val (.int (own_jrc5_0 x_w_running_arc5_0_0)), .val (.ref w_running_arc5_0), .val (.int (5 : Int32)), .val (.int (0 : Int32)), .val (.int x_w_running_arc5_0_0)] [])) _
    refine XS.iinc Xjrc5_4.here hx rfl (hb hby own_d8_33) rfl (l' := #[.val (.ref arc5_0), .val (.int (own_jrc5_0 x_w_running_arc5_0_0)), .val (.ref w_running_arc5_0), .val (.int (5 : Int32)), .val (.int (1 : Int32)), .val (.int x_w_running_arc5_0_0)]) rfl ?_
    refine XS.goto Xjrc5_4.here hx rfl (pc0 := 36) (pc' := 13) rfl (hb hby own_d8_36) (by decide) (by decide) ?_
    refine XS.iload Xjrc5_4.here hx rfl (hb hby own_d8_13) rfl ?_
    refine XS.iloadN Xjrc5_4.here hx rfl (hb hby own_d8_15) rfl ?_
    refine XS.icmpNo Xjrc5_4.here hx rfl (hb hby own_d8_16) rfl (XT.ii_ge_f (by decide : (1 : Int32) < (5 : Int32))) ?_
    refine XS.aloadN Xjrc5_4.here hx rfl (hb hby own_d8_19) rfl rfl ?_
    refine XS.iload Xjrc5_4.here hx rfl (hb hby own_d8_20) rfl ?_
    refine Xjrc5_4.baloadBooleans hx (j := (1 : Int32)) (v := (.int x_w_running_arc5_0_1)) (by rw [ejrc5_4]; exact Arorc5_5.1) (State.isArrayOf_alike hZ.alike Arorc5_5.2.1) Arorc5_5.2.2 hinorc5_5 hatorc5_5 (g := (mkF m 22 #[.val (.ref arc5_0), .val (.int (own_jrc5_0 x_w_running_arc5_0_0)), .val (.ref w_running_arc5_0), .val (.int (5 : Int32)), .val (.int (1 : Int32)), .val (.int x_w_running_arc5_0_0)] [(.int (1 : Int32)), (.ref w_running_arc5_0)])) rfl rfl (hb hby own_d8_22) _ ?_
    show Steps p.tables e below (Tjrc5_4.setTop (mkF m 23 #[.val (.ref arc5_0), .val (.int (own_jrc5_0 x_w_running_arc5_0_0)), .val (.ref w_running_arc5_0), .val (.int (5 : Int32)), .val (.int (1 : Int32)), .val (.int x_w_running_arc5_0_0)] [(.int x_w_running_arc5_0_1)])) _
    refine XS.istore Xjrc5_4.here hx rfl (hb hby own_d8_23) rfl (l' := #[.val (.ref arc5_0), .val (.int (own_jrc5_0 x_w_running_arc5_0_0)), .val (.ref w_running_arc5_0), .val (.int (5 : Int32)), .val (.int (1 : Int32)), .val (.int x_w_running_arc5_0_1)]) rfl ?_
    refine XS.iload Xjrc5_4.here hx rfl (hb hby own_d8_25) rfl ?_
    refine stjrc5_6 _ ?_
    show Steps p.tables e below (Tjrc5_6.setTop (mkF m 33 #[.val (.ref arc5_0), .val (.int (own_jrc5_1 x_w_running_arc5_0_0 x_w_running_arc5_0_1)), .val (.ref w_running_arc5_0), .val (.int (5 : Int32)), .val (.int (1 : Int32)), .val (.int x_w_running_arc5_0_1)] [])) _
    refine XS.iinc Xjrc5_6.here hx rfl (hb hby own_d8_33) rfl (l' := #[.val (.ref arc5_0), .val (.int (own_jrc5_1 x_w_running_arc5_0_0 x_w_running_arc5_0_1)), .val (.ref w_running_arc5_0), .val (.int (5 : Int32)), .val (.int (2 : Int32)), .val (.int x_w_running_arc5_0_1)]) rfl ?_
    refine XS.goto Xjrc5_6.here hx rfl (pc0 := 36) (pc' := 13) rfl (hb hby own_d8_36) (by decide) (by decide) ?_
    refine XS.iload Xjrc5_6.here hx rfl (hb hby own_d8_13) rfl ?_
    refine XS.iloadN Xjrc5_6.here hx rfl (hb hby own_d8_15) rfl ?_
    refine XS.icmpNo Xjrc5_6.here hx rfl (hb hby own_d8_16) rfl (XT.ii_ge_f (by decide : (2 : Int32) < (5 : Int32))) ?_
    refine XS.aloadN Xjrc5_6.here hx rfl (hb hby own_d8_19) rfl rfl ?_
    refine XS.iload Xjrc5_6.here hx rfl (hb hby own_d8_20) rfl ?_
    refine Xjrc5_6.baloadBooleans hx (j := (2 : Int32)) (v := (.int x_w_running_arc5_0_2)) (by rw [ejrc5_6]; exact Arorc5_7.1) (State.isArrayOf_alike hZ.alike Arorc5_7.2.1) Arorc5_7.2.2 hinorc5_7 hatorc5_7 (g := (mkF m 22 #[.val (.ref arc5_0), .val (.int (own_jrc5_1 x_w_running_arc5_0_0 x_w_running_arc5_0_1)), .val (.ref w_running_arc5_0), .val (.int (5 : Int32)), .val (.int (2 : Int32)), .val (.int x_w_running_arc5_0_1)] [(.int (2 : Int32)), (.ref w_running_arc5_0)])) rfl rfl (hb hby own_d8_22) _ ?_
    show Steps p.tables e below (Tjrc5_6.setTop (mkF m 23 #[.val (.ref arc5_0), .val (.int (own_jrc5_1 x_w_running_arc5_0_0 x_w_running_arc5_0_1)), .val (.ref w_running_arc5_0), .val (.int (5 : Int32)), .val (.int (2 : Int32)), .val (.int x_w_running_arc5_0_1)] [(.int x_w_running_arc5_0_2)])) _
    refine XS.istore Xjrc5_6.here hx rfl (hb hby own_d8_23) rfl (l' := #[.val (.ref arc5_0), .val (.int (own_jrc5_1 x_w_running_arc5_0_0 x_w_running_arc5_0_1)), .val (.ref w_running_arc5_0), .val (.int (5 : Int32)), .val (.int (2 : Int32)), .val (.int x_w_running_arc5_0_2)]) rfl ?_
    refine XS.iload Xjrc5_6.here hx rfl (hb hby own_d8_25) rfl ?_
    refine stjrc5_8 _ ?_
    show Steps p.tables e below (Tjrc5_8.setTop (mkF m 33 #[.val (.ref arc5_0), .val (.int (own_jrc5_2 x_w_running_arc5_0_0 x_w_running_arc5_0_1 x_w_running_arc5_0_2)), .val (.ref w_running_arc5_0), .val (.int (5 : Int32)), .val (.int (2 : Int32)), .val (.int x_w_running_arc5_0_2)] [])) _
    refine XS.iinc Xjrc5_8.here hx rfl (hb hby own_d8_33) rfl (l' := #[.val (.ref arc5_0), .val (.int (own_jrc5_2 x_w_running_arc5_0_0 x_w_running_arc5_0_1 x_w_running_arc5_0_2)), .val (.ref w_running_arc5_0), .val (.int (5 : Int32)), .val (.int (3 : Int32)), .val (.int x_w_running_arc5_0_2)]) rfl ?_
    refine XS.goto Xjrc5_8.here hx rfl (pc0 := 36) (pc' := 13) rfl (hb hby own_d8_36) (by decide) (by decide) ?_
    refine XS.iload Xjrc5_8.here hx rfl (hb hby own_d8_13) rfl ?_
    refine XS.iloadN Xjrc5_8.here hx rfl (hb hby own_d8_15) rfl ?_
    refine XS.icmpNo Xjrc5_8.here hx rfl (hb hby own_d8_16) rfl (XT.ii_ge_f (by decide : (3 : Int32) < (5 : Int32))) ?_
    refine XS.aloadN Xjrc5_8.here hx rfl (hb hby own_d8_19) rfl rfl ?_
    refine XS.iload Xjrc5_8.here hx rfl (hb hby own_d8_20) rfl ?_
    refine Xjrc5_8.baloadBooleans hx (j := (3 : Int32)) (v := (.int x_w_running_arc5_0_3)) (by rw [ejrc5_8]; exact Arorc5_9.1) (State.isArrayOf_alike hZ.alike Arorc5_9.2.1) Arorc5_9.2.2 hinorc5_9 hatorc5_9 (g := (mkF m 22 #[.val (.ref arc5_0), .val (.int (own_jrc5_2 x_w_running_arc5_0_0 x_w_running_arc5_0_1 x_w_running_arc5_0_2)), .val (.ref w_running_arc5_0), .val (.int (5 : Int32)), .val (.int (3 : Int32)), .val (.int x_w_running_arc5_0_2)] [(.int (3 : Int32)), (.ref w_running_arc5_0)])) rfl rfl (hb hby own_d8_22) _ ?_
    show Steps p.tables e below (Tjrc5_8.setTop (mkF m 23 #[.val (.ref arc5_0), .val (.int (own_jrc5_2 x_w_running_arc5_0_0 x_w_running_arc5_0_1 x_w_running_arc5_0_2)), .val (.ref w_running_arc5_0), .val (.int (5 : Int32)), .val (.int (3 : Int32)), .val (.int x_w_running_arc5_0_2)] [(.int x_w_running_arc5_0_3)])) _
    refine XS.istore Xjrc5_8.here hx rfl (hb hby own_d8_23) rfl (l' := #[.val (.ref arc5_0), .val (.int (own_jrc5_2 x_w_running_arc5_0_0 x_w_running_arc5_0_1 x_w_running_arc5_0_2)), .val (.ref w_running_arc5_0), .val (.int (5 : Int32)), .val (.int (3 : Int32)), .val (.int x_w_running_arc5_0_3)]) rfl ?_
    refine XS.iload Xjrc5_8.here hx rfl (hb hby own_d8_25) rfl ?_
    refine stjrc5_10 _ ?_
    show Steps p.tables e below (Tjrc5_10.setTop (mkF m 33 #[.val (.ref arc5_0), .val (.int (own_jrc5_3 x_w_running_arc5_0_0 x_w_running_arc5_0_1 x_w_running_arc5_0_2 x_w_running_arc5_0_3)), .val (.ref w_running_arc5_0), .val (.int (5 : Int32)), .val (.int (3 : Int32)), .val (.int x_w_running_arc5_0_3)] [])) _
    refine XS.iinc Xjrc5_10.here hx rfl (hb hby own_d8_33) rfl (l' := #[.val (.ref arc5_0), .val (.int (own_jrc5_3 x_w_running_arc5_0_0 x_w_running_arc5_0_1 x_w_running_arc5_0_2 x_w_running_arc5_0_3)), .val (.ref w_running_arc5_0), .val (.int (5 : Int32)), .val (.int (4 : Int32)), .val (.int x_w_running_arc5_0_3)]) rfl ?_
    refine XS.goto Xjrc5_10.here hx rfl (pc0 := 36) (pc' := 13) rfl (hb hby own_d8_36) (by decide) (by decide) ?_
    refine XS.iload Xjrc5_10.here hx rfl (hb hby own_d8_13) rfl ?_
    refine XS.iloadN Xjrc5_10.here hx rfl (hb hby own_d8_15) rfl ?_
    refine XS.icmpNo Xjrc5_10.here hx rfl (hb hby own_d8_16) rfl (XT.ii_ge_f (by decide : (4 : Int32) < (5 : Int32))) ?_
    refine XS.aloadN Xjrc5_10.here hx rfl (hb hby own_d8_19) rfl rfl ?_
    refine XS.iload Xjrc5_10.here hx rfl (hb hby own_d8_20) rfl ?_
    refine Xjrc5_10.baloadBooleans hx (j := (4 : Int32)) (v := (.int x_w_running_arc5_0_4)) (by rw [ejrc5_10]; exact Arorc5_11.1) (State.isArrayOf_alike hZ.alike Arorc5_11.2.1) Arorc5_11.2.2 hinorc5_11 hatorc5_11 (g := (mkF m 22 #[.val (.ref arc5_0), .val (.int (own_jrc5_3 x_w_running_arc5_0_0 x_w_running_arc5_0_1 x_w_running_arc5_0_2 x_w_running_arc5_0_3)), .val (.ref w_running_arc5_0), .val (.int (5 : Int32)), .val (.int (4 : Int32)), .val (.int x_w_running_arc5_0_3)] [(.int (4 : Int32)), (.ref w_running_arc5_0)])) rfl rfl (hb hby own_d8_22) _ ?_
    show Steps p.tables e below (Tjrc5_10.setTop (mkF m 23 #[.val (.ref arc5_0), .val (.int (own_jrc5_3 x_w_running_arc5_0_0 x_w_running_arc5_0_1 x_w_running_arc5_0_2 x_w_running_arc5_0_3)), .val (.ref w_running_arc5_0), .val (.int (5 : Int32)), .val (.int (4 : Int32)), .val (.int x_w_running_arc5_0_3)] [(.int x_w_running_arc5_0_4)])) _
    refine XS.istore Xjrc5_10.here hx rfl (hb hby own_d8_23) rfl (l' := #[.val (.ref arc5_0), .val (.int (own_jrc5_3 x_w_running_arc5_0_0 x_w_running_arc5_0_1 x_w_running_arc5_0_2 x_w_running_arc5_0_3)), .val (.ref w_running_arc5_0), .val (.int (5 : Int32)), .val (.int (4 : Int32)), .val (.int x_w_running_arc5_0_4)]) rfl ?_
    refine XS.iload Xjrc5_10.here hx rfl (hb hby own_d8_25) rfl ?_
    refine stjrc5_12 _ ?_
    show Steps p.tables e below (Tjrc5_12.setTop (mkF m 33 #[.val (.ref arc5_0), .val (.int (own_jrc5_4 x_w_running_arc5_0_0 x_w_running_arc5_0_1 x_w_running_arc5_0_2 x_w_running_arc5_0_3 x_w_running_arc5_0_4)), .val (.ref w_running_arc5_0), .val (.int (5 : Int32)), .val (.int (4 : Int32)), .val (.int x_w_running_arc5_0_4)] [])) _
    refine XS.iinc Xjrc5_12.here hx rfl (hb hby own_d8_33) rfl (l' := #[.val (.ref arc5_0), .val (.int (own_jrc5_4 x_w_running_arc5_0_0 x_w_running_arc5_0_1 x_w_running_arc5_0_2 x_w_running_arc5_0_3 x_w_running_arc5_0_4)), .val (.ref w_running_arc5_0), .val (.int (5 : Int32)), .val (.int (5 : Int32)), .val (.int x_w_running_arc5_0_4)]) rfl ?_
    refine XS.goto Xjrc5_12.here hx rfl (pc0 := 36) (pc' := 13) rfl (hb hby own_d8_36) (by decide) (by decide) ?_
    refine XS.iload Xjrc5_12.here hx rfl (hb hby own_d8_13) rfl ?_
    refine XS.iloadN Xjrc5_12.here hx rfl (hb hby own_d8_15) rfl ?_
    refine XS.icmpYes Xjrc5_12.here hx rfl (pc0 := 16) (pc' := 39) rfl (hb hby own_d8_16) rfl (XT.ii_ge_t (by decide : ¬ ((5 : Int32) < (5 : Int32)))) (by decide) (by decide) ?_
    refine XS.iloadN Xjrc5_12.here hx rfl (hb hby own_d8_39) rfl ?_
    show Steps p.tables e below (Tjrc5_12.setTop (mkF m 40 #[.val (.ref arc5_0), .val (.int (own_jrc5_4 x_w_running_arc5_0_0 x_w_running_arc5_0_1 x_w_running_arc5_0_2 x_w_running_arc5_0_3 x_w_running_arc5_0_4)), .val (.ref w_running_arc5_0), .val (.int (5 : Int32)), .val (.int (5 : Int32)), .val (.int x_w_running_arc5_0_4)] [(.int (own_jrc5_4 x_w_running_arc5_0_0 x_w_running_arc5_0_1 x_w_running_arc5_0_2 x_w_running_arc5_0_3 x_w_running_arc5_0_4))])) _
    exact retI Xjrc5_12 hx Bd.returns (hb hby own_d8_40) hr
  · show own_Qrc5 Z arc5_0 w_running_arc5_0 k_w_running_arc5_0 x_w_running_arc5_0_0 x_w_running_arc5_0_1 x_w_running_arc5_0_2 x_w_running_arc5_0_3 x_w_running_arc5_0_4 h0 n0 _ Tjrc5_12.heap _
    rw [ejrc5_12]
    exact ⟨rfl, Njrc5_12, rfl⟩
def own_jrc6_0 (x_w_running_arc6_0_0 : Int32) : Int32 := if x_w_running_arc6_0_0 = (0 : Int32) then (0 : Int32) else (1 : Int32)
def own_jrc6_1 (x_w_running_arc6_0_0 : Int32) (x_w_running_arc6_0_1 : Int32) : Int32 := if x_w_running_arc6_0_1 = (0 : Int32) then (own_jrc6_0 x_w_running_arc6_0_0) else ((own_jrc6_0 x_w_running_arc6_0_0) + (1 : Int32))
def own_jrc6_2 (x_w_running_arc6_0_0 : Int32) (x_w_running_arc6_0_1 : Int32) (x_w_running_arc6_0_2 : Int32) : Int32 := if x_w_running_arc6_0_2 = (0 : Int32) then (own_jrc6_1 x_w_running_arc6_0_0 x_w_running_arc6_0_1) else ((own_jrc6_1 x_w_running_arc6_0_0 x_w_running_arc6_0_1) + (1 : Int32))
def own_jrc6_3 (x_w_running_arc6_0_0 : Int32) (x_w_running_arc6_0_1 : Int32) (x_w_running_arc6_0_2 : Int32) (x_w_running_arc6_0_3 : Int32) : Int32 := if x_w_running_arc6_0_3 = (0 : Int32) then (own_jrc6_2 x_w_running_arc6_0_0 x_w_running_arc6_0_1 x_w_running_arc6_0_2) else ((own_jrc6_2 x_w_running_arc6_0_0 x_w_running_arc6_0_1 x_w_running_arc6_0_2) + (1 : Int32))
def own_jrc6_4 (x_w_running_arc6_0_0 : Int32) (x_w_running_arc6_0_1 : Int32) (x_w_running_arc6_0_2 : Int32) (x_w_running_arc6_0_3 : Int32) (x_w_running_arc6_0_4 : Int32) : Int32 := if x_w_running_arc6_0_4 = (0 : Int32) then (own_jrc6_3 x_w_running_arc6_0_0 x_w_running_arc6_0_1 x_w_running_arc6_0_2 x_w_running_arc6_0_3) else ((own_jrc6_3 x_w_running_arc6_0_0 x_w_running_arc6_0_1 x_w_running_arc6_0_2 x_w_running_arc6_0_3) + (1 : Int32))
def own_jrc6_5 (x_w_running_arc6_0_0 : Int32) (x_w_running_arc6_0_1 : Int32) (x_w_running_arc6_0_2 : Int32) (x_w_running_arc6_0_3 : Int32) (x_w_running_arc6_0_4 : Int32) (x_w_running_arc6_0_5 : Int32) : Int32 := if x_w_running_arc6_0_5 = (0 : Int32) then (own_jrc6_4 x_w_running_arc6_0_0 x_w_running_arc6_0_1 x_w_running_arc6_0_2 x_w_running_arc6_0_3 x_w_running_arc6_0_4) else ((own_jrc6_4 x_w_running_arc6_0_0 x_w_running_arc6_0_1 x_w_running_arc6_0_2 x_w_running_arc6_0_3 x_w_running_arc6_0_4) + (1 : Int32))
def own_rrc6_6 (x_w_running_arc6_0_0 : Int32) (x_w_running_arc6_0_1 : Int32) (x_w_running_arc6_0_2 : Int32) (x_w_running_arc6_0_3 : Int32) (x_w_running_arc6_0_4 : Int32) (x_w_running_arc6_0_5 : Int32) : Int32 := (own_jrc6_5 x_w_running_arc6_0_0 x_w_running_arc6_0_1 x_w_running_arc6_0_2 x_w_running_arc6_0_3 x_w_running_arc6_0_4 x_w_running_arc6_0_5)
theorem own_efrc6 (m : MethodId) (arc6_0 : Addr) : entryFrame m #[(.ref arc6_0)] 6 = mkF m 0 #[.val (.ref arc6_0), .unset, .unset, .unset, .unset, .unset] [] := by first | (simp [entryFrame, mkF, argsToLocals, Value.category]; done) | rfl
def own_Qrc6 (Z : State) (arc6_0 : Addr) (w_running_arc6_0 : Addr) (k_w_running_arc6_0 : ClassId) (x_w_running_arc6_0_0 : Int32) (x_w_running_arc6_0_1 : Int32) (x_w_running_arc6_0_2 : Int32) (x_w_running_arc6_0_3 : Int32) (x_w_running_arc6_0_4 : Int32) (x_w_running_arc6_0_5 : Int32) (h0 : Heap) (n0 : Nat) (v : Option Value) (h : Heap) (L : List Loc) : Prop := v = some (.int (own_rrc6_6 x_w_running_arc6_0_0 x_w_running_arc6_0_1 x_w_running_arc6_0_2 x_w_running_arc6_0_3 x_w_running_arc6_0_4 x_w_running_arc6_0_5)) ∧ Fr n0 L ∧ h = h0
set_option maxRecDepth 65536 in
set_option maxHeartbeats 40000000 in
theorem own_rmrc6 (l : Launch) (Z : State) (a0 : Array Value) (hw : ∀ d ∈ tables_1, d.before a0 Z = true) (ws : List Jvm.Cond) (arc6_0 : Addr) (w_running_arc6_0 : Addr) (k_w_running_arc6_0 : ClassId) (x_w_running_arc6_0_0 : Int32) (x_w_running_arc6_0_1 : Int32) (x_w_running_arc6_0_2 : Int32) (x_w_running_arc6_0_3 : Int32) (x_w_running_arc6_0_4 : Int32) (x_w_running_arc6_0_5 : Int32) (h0 : Heap) (n0 : Nat) (Z0 : n0 ≤ h0.size) (F_running_arc6_0 : Fld Z h0 arc6_0 "com/example/arborway/arborway/sim/RunTally$Walk" "running" "[Z" (.ref w_running_arc6_0)) (V_w_running_arc6_0 : Arv Z h0 w_running_arc6_0 k_w_running_arc6_0 .boolean (6 : Int32) [(.int x_w_running_arc6_0_0), (.int x_w_running_arc6_0_1), (.int x_w_running_arc6_0_2), (.int x_w_running_arc6_0_3), (.int x_w_running_arc6_0_4), (.int x_w_running_arc6_0_5)] (.int (0 : Int32))) :
    MetFree l (⟨"com/example/arborway/arborway/sim/RunTally$Walk", "runningCount", "()I"⟩ : MethodName) (head1 (Jvm.Cond.code (⟨"com/example/arborway/arborway/sim/RunTally$Walk", "runningCount", "()I"⟩ : MethodName) prog_76_method_5_code 6 (some .int) :: ws) ({ frames := 0, cells := 0, slots := 0, locals := 0 } : Room)) (fun a U => a = #[(.ref arc6_0)] ∧ Z.Warmed39 U.vm ∧ U.heap = h0) (fun _ _ _ _ _ => True) (fun _ U o U' => ∃ v L, o = .returned v ∧ own_Qrc6 Z arc6_0 w_running_arc6_0 k_w_running_arc6_0 x_w_running_arc6_0_0 x_w_running_arc6_0_1 x_w_running_arc6_0_2 x_w_running_arc6_0_3 x_w_running_arc6_0_4 x_w_running_arc6_0_5 h0 n0 v U'.heap L ∧ FrameEnd U o U' L ({ frames := 0, cells := 0, slots := 0, locals := 0 } : Room).cells ({ frames := 0, cells := 0, slots := 0, locals := 0 } : Room).slots) := by
  refine MetFree.of_bodySF (plainFor_of_name own_pn2) hisR ?_
  intro p e s m args below meth c s₁ Bd hml0 hP hK
  obtain ⟨rfl, hZ, hh⟩ := hP
  have hx := Bd.exec
  have hby := Bd.bytes
  have hml : c.maxLocals = 6 := hml0
  have hown : s.vm.findClass "com/example/arborway/arborway/sim/RunTally$Walk" = some m.cls := findClass_of_methodNamed Bd.named
  have hnm := (name_of_methodNamed Bd.named Bd.method).1
  have X0 : Stand p l e ({ frames := 0, cells := 0, slots := 0, locals := 0 } : Room) s m #[(.ref arc6_0)] below meth c s₁ [] 0 0 := Stand.of_body Bd
  have e0 : s₁.heap = h0 := by rw [← hh, Bd.state]; rfl
  have N0 := Fr.nil n0
  have Zr : h0.size ≤ h0.size := Nat.le_refl _
  have pre0 : ∀ t, Steps p.tables e below (s₁.setTop (mkF m 0 #[.val (.ref arc6_0), .unset, .unset, .unset, .unset, .unset] [])) t → Steps p.tables e below (s₁.setTop (entryFrame m #[(.ref arc6_0)] 6)) t := fun t k => castTop (own_efrc6 m arc6_0) k
  obtain ⟨Tnrc6_1, Xnrc6_1, enrc6_1, stnrc6_1⟩ := getF X0 hx hZ hown (host := "") (Or.inl (own_W hw 35 rfl)) Via.refl e0 F_running_arc6_0 (g := (mkF m 3 #[.val (.ref arc6_0), .val (.int (0 : Int32)), .unset, .unset, .unset, .unset] [(.ref arc6_0)])) rfl rfl (hb hby own_d8_3)
  have Oorc6_2 := V_w_running_arc6_0
  obtain ⟨clorc6_2, Arorc6_2, qorc6_2, Sorc6_2, Norc6_2, Horc6_2, Gorc6_2⟩ := Oorc6_2
  have Oorc6_3 := V_w_running_arc6_0
  obtain ⟨clorc6_3, Arorc6_3, qorc6_3, Sorc6_3, Norc6_3, Horc6_3, Gorc6_3⟩ := Oorc6_3
  have hinorc6_3 : ¬ ((0 : Int32) < 0 ∨ clorc6_3.slots.size ≤ ((0 : Int32)).toNatClampNeg) := inb_of Sorc6_3 ⟨by decide, by decide⟩
  have hatorc6_3 : clorc6_3.slots[((0 : Int32)).toNatClampNeg]? = some (.int x_w_running_arc6_0_0) := Horc6_3.at hinorc6_3 rfl
  obtain ⟨Tjrc6_4, ljrc6_4, Xjrc6_4, Njrc6_4, ejrc6_4, stjrc6_4⟩ : ∃ (T' : State) (l' : List Loc), Stand p l e ({ frames := 0, cells := 0, slots := 0, locals := 0 } : Room) s m #[(.ref arc6_0)] below meth c T' l' 0 0 ∧ Fr n0 l' ∧ T'.heap = h0 ∧ ∀ target, Steps p.tables e below (T'.setTop (mkF m 33 #[.val (.ref arc6_0), .val (.int (own_jrc6_0 x_w_running_arc6_0_0)), .val (.ref w_running_arc6_0), .val (.int (6 : Int32)), .val (.int (0 : Int32)), .val (.int x_w_running_arc6_0_0)] [])) target → Steps p.tables e below (Tnrc6_1.setTop (mkF m 27 #[.val (.ref arc6_0), .val (.int (0 : Int32)), .val (.ref w_running_arc6_0), .val (.int (6 : Int32)), .val (.int (0 : Int32)), .val (.int x_w_running_arc6_0_0)] [(.int x_w_running_arc6_0_0)])) target := by
    by_cases hjrc6_4 : x_w_running_arc6_0_0 = (0 : Int32)
    · refine ⟨_, _, Xnrc6_1, N0, enrc6_1, fun target kt => ?_⟩
      rw [(show (own_jrc6_0 x_w_running_arc6_0_0) = (0 : Int32) from if_pos hjrc6_4)] at kt
      show Steps p.tables e below (Tnrc6_1.setTop (mkF m 27 #[.val (.ref arc6_0), .val (.int (0 : Int32)), .val (.ref w_running_arc6_0), .val (.int (6 : Int32)), .val (.int (0 : Int32)), .val (.int x_w_running_arc6_0_0)] [(.int x_w_running_arc6_0_0)])) _
      refine XS.ifYes Xnrc6_1.here hx rfl (pc0 := 27) (pc' := 33) rfl (hb hby own_d8_27) rfl (XT.i0_eq_t hjrc6_4) (by decide) (by decide) ?_
      exact kt
    · refine ⟨_, _, Xnrc6_1, N0, enrc6_1, fun target kt => ?_⟩
      rw [(show (own_jrc6_0 x_w_running_arc6_0_0) = (1 : Int32) from if_neg hjrc6_4)] at kt
      show Steps p.tables e below (Tnrc6_1.setTop (mkF m 27 #[.val (.ref arc6_0), .val (.int (0 : Int32)), .val (.ref w_running_arc6_0), .val (.int (6 : Int32)), .val (.int (0 : Int32)), .val (.int x_w_running_arc6_0_0)] [(.int x_w_running_arc6_0_0)])) _
      refine XS.ifNo Xnrc6_1.here hx rfl (hb hby own_d8_27) rfl (XT.i0_eq_f hjrc6_4) ?_
      refine XS.iinc Xnrc6_1.here hx rfl (hb hby own_d8_30) rfl (l' := #[.val (.ref arc6_0), .val (.int (1 : Int32)), .val (.ref w_running_arc6_0), .val (.int (6 : Int32)), .val (.int (0 : Int32)), .val (.int x_w_running_arc6_0_0)]) rfl ?_
      exact kt
  have Oorc6_5 := V_w_running_arc6_0
  obtain ⟨clorc6_5, Arorc6_5, qorc6_5, Sorc6_5, Norc6_5, Horc6_5, Gorc6_5⟩ := Oorc6_5
  have hinorc6_5 : ¬ ((1 : Int32) < 0 ∨ clorc6_5.slots.size ≤ ((1 : Int32)).toNatClampNeg) := inb_of Sorc6_5 ⟨by decide, by decide⟩
  have hatorc6_5 : clorc6_5.slots[((1 : Int32)).toNatClampNeg]? = some (.int x_w_running_arc6_0_1) := Horc6_5.at hinorc6_5 rfl
  obtain ⟨Tjrc6_6, ljrc6_6, Xjrc6_6, Njrc6_6, ejrc6_6, stjrc6_6⟩ : ∃ (T' : State) (l' : List Loc), Stand p l e ({ frames := 0, cells := 0, slots := 0, locals := 0 } : Room) s m #[(.ref arc6_0)] below meth c T' l' 0 0 ∧ Fr n0 l' ∧ T'.heap = h0 ∧ ∀ target, Steps p.tables e below (T'.setTop (mkF m 33 #[.val (.ref arc6_0), .val (.int (own_jrc6_1 x_w_running_arc6_0_0 x_w_running_arc6_0_1)), .val (.ref w_running_arc6_0), .val (.int (6 : Int32)), .val (.int (1 : Int32)), .val (.int x_w_running_arc6_0_1)] [])) target → Steps p.tables e below (Tjrc6_4.setTop (mkF m 27 #[.val (.ref arc6_0), .val (.int (own_jrc6_0 x_w_running_arc6_0_0)), .val (.ref w_running_arc6_0), .val (.int (6 : Int32)), .val (.int (1 : Int32)), .val (.int x_w_running_arc6_0_1)] [(.int x_w_running_arc6_0_1)])) target := by
    by_cases hjrc6_6 : x_w_running_arc6_0_1 = (0 : Int32)
    · refine ⟨_, _, Xjrc6_4, Njrc6_4, ejrc6_4, fun target kt => ?_⟩
      rw [(show (own_jrc6_1 x_w_running_arc6_0_0 x_w_running_arc6_0_1) = (own_jrc6_0 x_w_running_arc6_0_0) from if_pos hjrc6_6)] at kt
      show Steps p.tables e below (Tjrc6_4.setTop (mkF m 27 #[.val (.ref arc6_0), .val (.int (own_jrc6_0 x_w_running_arc6_0_0)), .val (.ref w_running_arc6_0), .val (.int (6 : Int32)), .val (.int (1 : Int32)), .val (.int x_w_running_arc6_0_1)] [(.int x_w_running_arc6_0_1)])) _
      refine XS.ifYes Xjrc6_4.here hx rfl (pc0 := 27) (pc' := 33) rfl (hb hby own_d8_27) rfl (XT.i0_eq_t hjrc6_6) (by decide) (by decide) ?_
      exact kt
    · refine ⟨_, _, Xjrc6_4, Njrc6_4, ejrc6_4, fun target kt => ?_⟩
      rw [(show (own_jrc6_1 x_w_running_arc6_0_0 x_w_running_arc6_0_1) = ((own_jrc6_0 x_w_running_arc6_0_0) + (1 : Int32)) from if_neg hjrc6_6)] at kt
      show Steps p.tables e below (Tjrc6_4.setTop (mkF m 27 #[.val (.ref arc6_0), .val (.int (own_jrc6_0 x_w_running_arc6_0_0)), .val (.ref w_running_arc6_0), .val (.int (6 : Int32)), .val (.int (1 : Int32)), .val (.int x_w_running_arc6_0_1)] [(.int x_w_running_arc6_0_1)])) _
      refine XS.ifNo Xjrc6_4.here hx rfl (hb hby own_d8_27) rfl (XT.i0_eq_f hjrc6_6) ?_
      refine XS.iinc Xjrc6_4.here hx rfl (hb hby own_d8_30) rfl (l' := #[.val (.ref arc6_0), .val (.int ((own_jrc6_0 x_w_running_arc6_0_0) + (1 : Int32))), .val (.ref w_running_arc6_0), .val (.int (6 : Int32)), .val (.int (1 : Int32)), .val (.int x_w_running_arc6_0_1)]) rfl ?_
      exact kt
  have Oorc6_7 := V_w_running_arc6_0
  obtain ⟨clorc6_7, Arorc6_7, qorc6_7, Sorc6_7, Norc6_7, Horc6_7, Gorc6_7⟩ := Oorc6_7
  have hinorc6_7 : ¬ ((2 : Int32) < 0 ∨ clorc6_7.slots.size ≤ ((2 : Int32)).toNatClampNeg) := inb_of Sorc6_7 ⟨by decide, by decide⟩
  have hatorc6_7 : clorc6_7.slots[((2 : Int32)).toNatClampNeg]? = some (.int x_w_running_arc6_0_2) := Horc6_7.at hinorc6_7 rfl
  obtain ⟨Tjrc6_8, ljrc6_8, Xjrc6_8, Njrc6_8, ejrc6_8, stjrc6_8⟩ : ∃ (T' : State) (l' : List Loc), Stand p l e ({ frames := 0, cells := 0, slots := 0, locals := 0 } : Room) s m #[(.ref arc6_0)] below meth c T' l' 0 0 ∧ Fr n0 l' ∧ T'.heap = h0 ∧ ∀ target, Steps p.tables e below (T'.setTop (mkF m 33 #[.val (.ref arc6_0), .val (.int (own_jrc6_2 x_w_running_arc6_0_0 x_w_running_arc6_0_1 x_w_running_arc6_0_2)), .val (.ref w_running_arc6_0), .val (.int (6 : Int32)), .val (.int (2 : Int32)), .val (.int x_w_running_arc6_0_2)] [])) target → Steps p.tables e below (Tjrc6_6.setTop (mkF m 27 #[.val (.ref arc6_0), .val (.int (own_jrc6_1 x_w_running_arc6_0_0 x_w_running_arc6_0_1)), .val (.ref w_running_arc6_0), .val (.int (6 : Int32)), .val (.int (2 : Int32)), .val (.int x_w_running_arc6_0_2)] [(.int x_w_running_arc6_0_2)])) target := by
    by_cases hjrc6_8 : x_w_running_arc6_0_2 = (0 : Int32)
    · refine ⟨_, _, Xjrc6_6, Njrc6_6, ejrc6_6, fun target kt => ?_⟩
      rw [(show (own_jrc6_2 x_w_running_arc6_0_0 x_w_running_arc6_0_1 x_w_running_arc6_0_2) = (own_jrc6_1 x_w_running_arc6_0_0 x_w_running_arc6_0_1) from if_pos hjrc6_8)] at kt
      show Steps p.tables e below (Tjrc6_6.setTop (mkF m 27 #[.val (.ref arc6_0), .val (.int (own_jrc6_1 x_w_running_arc6_0_0 x_w_running_arc6_0_1)), .val (.ref w_running_arc6_0), .val (.int (6 : Int32)), .val (.int (2 : Int32)), .val (.int x_w_running_arc6_0_2)] [(.int x_w_running_arc6_0_2)])) _
      refine XS.ifYes Xjrc6_6.here hx rfl (pc0 := 27) (pc' := 33) rfl (hb hby own_d8_27) rfl (XT.i0_eq_t hjrc6_8) (by decide) (by decide) ?_
      exact kt
    · refine ⟨_, _, Xjrc6_6, Njrc6_6, ejrc6_6, fun target kt => ?_⟩
      rw [(show (own_jrc6_2 x_w_running_arc6_0_0 x_w_running_arc6_0_1 x_w_running_arc6_0_2) = ((own_jrc6_1 x_w_running_arc6_0_0 x_w_running_arc6_0_1) + (1 : Int32)) from if_neg hjrc6_8)] at kt
      show Steps p.tables e below (Tjrc6_6.setTop (mkF m 27 #[.val (.ref arc6_0), .val (.int (own_jrc6_1 x_w_running_arc6_0_0 x_w_running_arc6_0_1)), .val (.ref w_running_arc6_0), .val (.int (6 : Int32)), .val (.int (2 : Int32)), .val (.int x_w_running_arc6_0_2)] [(.int x_w_running_arc6_0_2)])) _
      refine XS.ifNo Xjrc6_6.here hx rfl (hb hby own_d8_27) rfl (XT.i0_eq_f hjrc6_8) ?_
      refine XS.iinc Xjrc6_6.here hx rfl (hb hby own_d8_30) rfl (l' := #[.val (.ref arc6_0), .val (.int ((own_jrc6_1 x_w_running_arc6_0_0 x_w_running_arc6_0_1) + (1 : Int32))), .val (.ref w_running_arc6_0), .val (.int (6 : Int32)), .val (.int (2 : Int32)), .val (.int x_w_running_arc6_0_2)]) rfl ?_
      exact kt
  have Oorc6_9 := V_w_running_arc6_0
  obtain ⟨clorc6_9, Arorc6_9, qorc6_9, Sorc6_9, Norc6_9, Horc6_9, Gorc6_9⟩ := Oorc6_9
  have hinorc6_9 : ¬ ((3 : Int32) < 0 ∨ clorc6_9.slots.size ≤ ((3 : Int32)).toNatClampNeg) := inb_of Sorc6_9 ⟨by decide, by decide⟩
  have hatorc6_9 : clorc6_9.slots[((3 : Int32)).toNatClampNeg]? = some (.int x_w_running_arc6_0_3) := Horc6_9.at hinorc6_9 rfl
  obtain ⟨Tjrc6_10, ljrc6_10, Xjrc6_10, Njrc6_10, ejrc6_10, stjrc6_10⟩ : ∃ (T' : State) (l' : List Loc), Stand p l e ({ frames := 0, cells := 0, slots := 0, locals := 0 } : Room) s m #[(.ref arc6_0)] below meth c T' l' 0 0 ∧ Fr n0 l' ∧ T'.heap = h0 ∧ ∀ target, Steps p.tables e below (T'.setTop (mkF m 33 #[.val (.ref arc6_0), .val (.int (own_jrc6_3 x_w_running_arc6_0_0 x_w_running_arc6_0_1 x_w_running_arc6_0_2 x_w_running_arc6_0_3)), .val (.ref w_running_arc6_0), .val (.int (6 : Int32)), .val (.int (3 : Int32)), .val (.int x_w_running_arc6_0_3)] [])) target → Steps p.tables e below (Tjrc6_8.setTop (mkF m 27 #[.val (.ref arc6_0), .val (.int (own_jrc6_2 x_w_running_arc6_0_0 x_w_running_arc6_0_1 x_w_running_arc6_0_2)), .val (.ref w_running_arc6_0), .val (.int (6 : Int32)), .val (.int (3 : Int32)), .val (.int x_w_running_arc6_0_3)] [(.int x_w_running_arc6_0_3)])) target := by
    by_cases hjrc6_10 : x_w_running_arc6_0_3 = (0 : Int32)
    · refine ⟨_, _, Xjrc6_8, Njrc6_8, ejrc6_8, fun target kt => ?_⟩
      rw [(show (own_jrc6_3 x_w_running_arc6_0_0 x_w_running_arc6_0_1 x_w_running_arc6_0_2 x_w_running_arc6_0_3) = (own_jrc6_2 x_w_running_arc6_0_0 x_w_running_arc6_0_1 x_w_running_arc6_0_2) from if_pos hjrc6_10)] at kt
      show Steps p.tables e below (Tjrc6_8.setTop (mkF m 27 #[.val (.ref arc6_0), .val (.int (own_jrc6_2 x_w_running_arc6_0_0 x_w_running_arc6_0_1 x_w_running_arc6_0_2)), .val (.ref w_running_arc6_0), .val (.int (6 : Int32)), .val (.int (3 : Int32)), .val (.int x_w_running_arc6_0_3)] [(.int x_w_running_arc6_0_3)])) _
      refine XS.ifYes Xjrc6_8.here hx rfl (pc0 := 27) (pc' := 33) rfl (hb hby own_d8_27) rfl (XT.i0_eq_t hjrc6_10) (by decide) (by decide) ?_
      exact kt
    · refine ⟨_, _, Xjrc6_8, Njrc6_8, ejrc6_8, fun target kt => ?_⟩
      rw [(show (own_jrc6_3 x_w_running_arc6_0_0 x_w_running_arc6_0_1 x_w_running_arc6_0_2 x_w_running_arc6_0_3) = ((own_jrc6_2 x_w_running_arc6_0_0 x_w_running_arc6_0_1 x_w_running_arc6_0_2) + (1 : Int32)) from if_neg hjrc6_10)] at kt
      show Steps p.tables e below (Tjrc6_8.setTop (mkF m 27 #[.val (.ref arc6_0), .val (.int (own_jrc6_2 x_w_running_arc6_0_0 x_w_running_arc6_0_1 x_w_running_arc6_0_2)), .val (.ref w_running_arc6_0), .val (.int (6 : Int32)), .val (.int (3 : Int32)), .val (.int x_w_running_arc6_0_3)] [(.int x_w_running_arc6_0_3)])) _
      refine XS.ifNo Xjrc6_8.here hx rfl (hb hby own_d8_27) rfl (XT.i0_eq_f hjrc6_10) ?_
      refine XS.iinc Xjrc6_8.here hx rfl (hb hby own_d8_30) rfl (l' := #[.val (.ref arc6_0), .val (.int ((own_jrc6_2 x_w_running_arc6_0_0 x_w_running_arc6_0_1 x_w_running_arc6_0_2) + (1 : Int32))), .val (.ref w_running_arc6_0), .val (.int (6 : Int32)), .val (.int (3 : Int32)), .val (.int x_w_running_arc6_0_3)]) rfl ?_
      exact kt
  have Oorc6_11 := V_w_running_arc6_0
  obtain ⟨clorc6_11, Arorc6_11, qorc6_11, Sorc6_11, Norc6_11, Horc6_11, Gorc6_11⟩ := Oorc6_11
  have hinorc6_11 : ¬ ((4 : Int32) < 0 ∨ clorc6_11.slots.size ≤ ((4 : Int32)).toNatClampNeg) := inb_of Sorc6_11 ⟨by decide, by decide⟩
  have hatorc6_11 : clorc6_11.slots[((4 : Int32)).toNatClampNeg]? = some (.int x_w_running_arc6_0_4) := Horc6_11.at hinorc6_11 rfl
  obtain ⟨Tjrc6_12, ljrc6_12, Xjrc6_12, Njrc6_12, ejrc6_12, stjrc6_12⟩ : ∃ (T' : State) (l' : List Loc), Stand p l e ({ frames := 0, cells := 0, slots := 0, locals := 0 } : Room) s m #[(.ref arc6_0)] below meth c T' l' 0 0 ∧ Fr n0 l' ∧ T'.heap = h0 ∧ ∀ target, Steps p.tables e below (T'.setTop (mkF m 33 #[.val (.ref arc6_0), .val (.int (own_jrc6_4 x_w_running_arc6_0_0 x_w_running_arc6_0_1 x_w_running_arc6_0_2 x_w_running_arc6_0_3 x_w_running_arc6_0_4)), .val (.ref w_running_arc6_0), .val (.int (6 : Int32)), .val (.int (4 : Int32)), .val (.int x_w_running_arc6_0_4)] [])) target → Steps p.tables e below (Tjrc6_10.setTop (mkF m 27 #[.val (.ref arc6_0), .val (.int (own_jrc6_3 x_w_running_arc6_0_0 x_w_running_arc6_0_1 x_w_running_arc6_0_2 x_w_running_arc6_0_3)), .val (.ref w_running_arc6_0), .val (.int (6 : Int32)), .val (.int (4 : Int32)), .val (.int x_w_running_arc6_0_4)] [(.int x_w_running_arc6_0_4)])) target := by
    by_cases hjrc6_12 : x_w_running_arc6_0_4 = (0 : Int32)
    · refine ⟨_, _, Xjrc6_10, Njrc6_10, ejrc6_10, fun target kt => ?_⟩
      rw [(show (own_jrc6_4 x_w_running_arc6_0_0 x_w_running_arc6_0_1 x_w_running_arc6_0_2 x_w_running_arc6_0_3 x_w_running_arc6_0_4) = (own_jrc6_3 x_w_running_arc6_0_0 x_w_running_arc6_0_1 x_w_running_arc6_0_2 x_w_running_arc6_0_3) from if_pos hjrc6_12)] at kt
      show Steps p.tables e below (Tjrc6_10.setTop (mkF m 27 #[.val (.ref arc6_0), .val (.int (own_jrc6_3 x_w_running_arc6_0_0 x_w_running_arc6_0_1 x_w_running_arc6_0_2 x_w_running_arc6_0_3)), .val (.ref w_running_arc6_0), .val (.int (6 : Int32)), .val (.int (4 : Int32)), .val (.int x_w_running_arc6_0_4)] [(.int x_w_running_arc6_0_4)])) _
      refine XS.ifYes Xjrc6_10.here hx rfl (pc0 := 27) (pc' := 33) rfl (hb hby own_d8_27) rfl (XT.i0_eq_t hjrc6_12) (by decide) (by decide) ?_
      exact kt
    · refine ⟨_, _, Xjrc6_10, Njrc6_10, ejrc6_10, fun target kt => ?_⟩
      rw [(show (own_jrc6_4 x_w_running_arc6_0_0 x_w_running_arc6_0_1 x_w_running_arc6_0_2 x_w_running_arc6_0_3 x_w_running_arc6_0_4) = ((own_jrc6_3 x_w_running_arc6_0_0 x_w_running_arc6_0_1 x_w_running_arc6_0_2 x_w_running_arc6_0_3) + (1 : Int32)) from if_neg hjrc6_12)] at kt
      show Steps p.tables e below (Tjrc6_10.setTop (mkF m 27 #[.val (.ref arc6_0), .val (.int (own_jrc6_3 x_w_running_arc6_0_0 x_w_running_arc6_0_1 x_w_running_arc6_0_2 x_w_running_arc6_0_3)), .val (.ref w_running_arc6_0), .val (.int (6 : Int32)), .val (.int (4 : Int32)), .val (.int x_w_running_arc6_0_4)] [(.int x_w_running_arc6_0_4)])) _
      refine XS.ifNo Xjrc6_10.here hx rfl (hb hby own_d8_27) rfl (XT.i0_eq_f hjrc6_12) ?_
      refine XS.iinc Xjrc6_10.here hx rfl (hb hby own_d8_30) rfl (l' := #[.val (.ref arc6_0), .val (.int ((own_jrc6_3 x_w_running_arc6_0_0 x_w_running_arc6_0_1 x_w_running_arc6_0_2 x_w_running_arc6_0_3) + (1 : Int32))), .val (.ref w_running_arc6_0), .val (.int (6 : Int32)), .val (.int (4 : Int32)), .val (.int x_w_running_arc6_0_4)]) rfl ?_
      exact kt
  have Oorc6_13 := V_w_running_arc6_0
  obtain ⟨clorc6_13, Arorc6_13, qorc6_13, Sorc6_13, Norc6_13, Horc6_13, Gorc6_13⟩ := Oorc6_13
  have hinorc6_13 : ¬ ((5 : Int32) < 0 ∨ clorc6_13.slots.size ≤ ((5 : Int32)).toNatClampNeg) := inb_of Sorc6_13 ⟨by decide, by decide⟩
  have hatorc6_13 : clorc6_13.slots[((5 : Int32)).toNatClampNeg]? = some (.int x_w_running_arc6_0_5) := Horc6_13.at hinorc6_13 rfl
  obtain ⟨Tjrc6_14, ljrc6_14, Xjrc6_14, Njrc6_14, ejrc6_14, stjrc6_14⟩ : ∃ (T' : State) (l' : List Loc), Stand p l e ({ frames := 0, cells := 0, slots := 0, locals := 0 } : Room) s m #[(.ref arc6_0)] below meth c T' l' 0 0 ∧ Fr n0 l' ∧ T'.heap = h0 ∧ ∀ target, Steps p.tables e below (T'.setTop (mkF m 33 #[.val (.ref arc6_0), .val (.int (own_jrc6_5 x_w_running_arc6_0_0 x_w_running_arc6_0_1 x_w_running_arc6_0_2 x_w_running_arc6_0_3 x_w_running_arc6_0_4 x_w_running_arc6_0_5)), .val (.ref w_running_arc6_0), .val (.int (6 : Int32)), .val (.int (5 : Int32)), .val (.int x_w_running_arc6_0_5)] [])) target → Steps p.tables e below (Tjrc6_12.setTop (mkF m 27 #[.val (.ref arc6_0), .val (.int (own_jrc6_4 x_w_running_arc6_0_0 x_w_running_arc6_0_1 x_w_running_arc6_0_2 x_w_running_arc6_0_3 x_w_running_arc6_0_4)), .val (.ref w_running_arc6_0), .val (.int (6 : Int32)), .val (.int (5 : Int32)), .val (.int x_w_running_arc6_0_5)] [(.int x_w_running_arc6_0_5)])) target := by
    by_cases hjrc6_14 : x_w_running_arc6_0_5 = (0 : Int32)
    · refine ⟨_, _, Xjrc6_12, Njrc6_12, ejrc6_12, fun target kt => ?_⟩
      rw [(show (own_jrc6_5 x_w_running_arc6_0_0 x_w_running_arc6_0_1 x_w_running_arc6_0_2 x_w_running_arc6_0_3 x_w_running_arc6_0_4 x_w_running_arc6_0_5) = (own_jrc6_4 x_w_running_arc6_0_0 x_w_running_arc6_0_1 x_w_running_arc6_0_2 x_w_running_arc6_0_3 x_w_running_arc6_0_4) from if_pos hjrc6_14)] at kt
      show Steps p.tables e below (Tjrc6_12.setTop (mkF m 27 #[.val (.ref arc6_0), .val (.int (own_jrc6_4 x_w_running_arc6_0_0 x_w_running_arc6_0_1 x_w_running_arc6_0_2 x_w_running_arc6_0_3 x_w_running_arc6_0_4)), .val (.ref w_running_arc6_0), .val (.int (6 : Int32)), .val (.int (5 : Int32)), .val (.int x_w_running_arc6_0_5)] [(.int x_w_running_arc6_0_5)])) _
      refine XS.ifYes Xjrc6_12.here hx rfl (pc0 := 27) (pc' := 33) rfl (hb hby own_d8_27) rfl (XT.i0_eq_t hjrc6_14) (by decide) (by decide) ?_
      exact kt
    · refine ⟨_, _, Xjrc6_12, Njrc6_12, ejrc6_12, fun target kt => ?_⟩
      rw [(show (own_jrc6_5 x_w_running_arc6_0_0 x_w_running_arc6_0_1 x_w_running_arc6_0_2 x_w_running_arc6_0_3 x_w_running_arc6_0_4 x_w_running_arc6_0_5) = ((own_jrc6_4 x_w_running_arc6_0_0 x_w_running_arc6_0_1 x_w_running_arc6_0_2 x_w_running_arc6_0_3 x_w_running_arc6_0_4) + (1 : Int32)) from if_neg hjrc6_14)] at kt
      show Steps p.tables e below (Tjrc6_12.setTop (mkF m 27 #[.val (.ref arc6_0), .val (.int (own_jrc6_4 x_w_running_arc6_0_0 x_w_running_arc6_0_1 x_w_running_arc6_0_2 x_w_running_arc6_0_3 x_w_running_arc6_0_4)), .val (.ref w_running_arc6_0), .val (.int (6 : Int32)), .val (.int (5 : Int32)), .val (.int x_w_running_arc6_0_5)] [(.int x_w_running_arc6_0_5)])) _
      refine XS.ifNo Xjrc6_12.here hx rfl (hb hby own_d8_27) rfl (XT.i0_eq_f hjrc6_14) ?_
      refine XS.iinc Xjrc6_12.here hx rfl (hb hby own_d8_30) rfl (l' := #[.val (.ref arc6_0), .val (.int ((own_jrc6_4 x_w_running_arc6_0_0 x_w_running_arc6_0_1 x_w_running_arc6_0_2 x_w_running_arc6_0_3 x_w_running_arc6_0_4) + (1 : Int32))), .val (.ref w_running_arc6_0), .val (.int (6 : Int32)), .val (.int (5 : Int32)), .val (.int x_w_running_arc6_0_5)]) rfl ?_
      exact kt
  obtain ⟨fs, hr, hrun, hended, hW, hsame⟩ := Xjrc6_14.leave (v := some (.int (own_jrc6_5 x_w_running_arc6_0_0 x_w_running_arc6_0_1 x_w_running_arc6_0_2 x_w_running_arc6_0_3 x_w_running_arc6_0_4 x_w_running_arc6_0_5))) (fun h => by rw [Bd.returns] at h; cases h)
  refine ⟨_, _, pre0 _ (?_), hrun, hended, _, _, rfl, ?_, ⟨_, rfl⟩, hW, hsame.mono (by decide) (by decide)⟩
  · show Steps p.tables e below (s₁.setTop (mkF m 0 #[.val (.ref arc6_0), .unset, .unset, .unset, .unset, .unset] [])) _
    refine XS.iconst X0.here hx rfl (hb hby own_d8_0) ?_
    refine XS.istoreN X0.here hx rfl (hb hby own_d8_1) rfl (l' := #[.val (.ref arc6_0), .val (.int (0 : Int32)), .unset, .unset, .unset, .unset]) rfl ?_
    refine XS.aloadN X0.here hx rfl (hb hby own_d8_2) rfl rfl ?_
    refine stnrc6_1 _ ?_
    show Steps p.tables e below (Tnrc6_1.setTop (mkF m 6 #[.val (.ref arc6_0), .val (.int (0 : Int32)), .unset, .unset, .unset, .unset] [(.ref w_running_arc6_0)])) _
    refine XS.astoreN Xnrc6_1.here hx rfl (hb hby own_d8_6) rfl rfl (l' := #[.val (.ref arc6_0), .val (.int (0 : Int32)), .val (.ref w_running_arc6_0), .unset, .unset, .unset]) rfl ?_
    refine XS.aloadN Xnrc6_1.here hx rfl (hb hby own_d8_7) rfl rfl ?_
    refine Xnrc6_1.arraylength hx (by rw [enrc6_1]; exact Arorc6_2.1) (State.isArrayOf_alike hZ.alike Arorc6_2.2.1) (g := (mkF m 8 #[.val (.ref arc6_0), .val (.int (0 : Int32)), .val (.ref w_running_arc6_0), .unset, .unset, .unset] [(.ref w_running_arc6_0)])) rfl rfl (hb hby own_d8_8) _ ?_
    rw [len_of Sorc6_2 Norc6_2]
    show Steps p.tables e below (Tnrc6_1.setTop (mkF m 9 #[.val (.ref arc6_0), .val (.int (0 : Int32)), .val (.ref w_running_arc6_0), .unset, .unset, .unset] [(.int (6 : Int32))])) _
    refine XS.istoreN Xnrc6_1.here hx rfl (hb hby own_d8_9) rfl (l' := #[.val (.ref arc6_0), .val (.int (0 : Int32)), .val (.ref w_running_arc6_0), .val (.int (6 : Int32)), .unset, .unset]) rfl ?_
    refine XS.iconst Xnrc6_1.here hx rfl (hb hby own_d8_10) ?_
    refine XS.istore Xnrc6_1.here hx rfl (hb hby own_d8_11) rfl (l' := #[.val (.ref arc6_0), .val (.int (0 : Int32)), .val (.ref w_running_arc6_0), .val (.int (6 : Int32)), .val (.int (0 : Int32)), .unset]) rfl ?_
    refine XS.iload Xnrc6_1.here hx rfl (hb hby own_d8_13) rfl ?_
    refine XS.iloadN Xnrc6_1.here hx rfl (hb hby own_d8_15) rfl ?_
    refine XS.icmpNo Xnrc6_1.here hx rfl (hb hby own_d8_16) rfl (XT.ii_ge_f (by decide : (0 : Int32) < (6 : Int32))) ?_
    refine XS.aloadN Xnrc6_1.here hx rfl (hb hby own_d8_19) rfl rfl ?_
    refine XS.iload Xnrc6_1.here hx rfl (hb hby own_d8_20) rfl ?_
    refine Xnrc6_1.baloadBooleans hx (j := (0 : Int32)) (v := (.int x_w_running_arc6_0_0)) (by rw [enrc6_1]; exact Arorc6_3.1) (State.isArrayOf_alike hZ.alike Arorc6_3.2.1) Arorc6_3.2.2 hinorc6_3 hatorc6_3 (g := (mkF m 22 #[.val (.ref arc6_0), .val (.int (0 : Int32)), .val (.ref w_running_arc6_0), .val (.int (6 : Int32)), .val (.int (0 : Int32)), .unset] [(.int (0 : Int32)), (.ref w_running_arc6_0)])) rfl rfl (hb hby own_d8_22) _ ?_
    show Steps p.tables e below (Tnrc6_1.setTop (mkF m 23 #[.val (.ref arc6_0), .val (.int (0 : Int32)), .val (.ref w_running_arc6_0), .val (.int (6 : Int32)), .val (.int (0 : Int32)), .unset] [(.int x_w_running_arc6_0_0)])) _
    refine XS.istore Xnrc6_1.here hx rfl (hb hby own_d8_23) rfl (l' := #[.val (.ref arc6_0), .val (.int (0 : Int32)), .val (.ref w_running_arc6_0), .val (.int (6 : Int32)), .val (.int (0 : Int32)), .val (.int x_w_running_arc6_0_0)]) rfl ?_
    refine XS.iload Xnrc6_1.here hx rfl (hb hby own_d8_25) rfl ?_
    refine stjrc6_4 _ ?_
    show Steps p.tables e below (Tjrc6_4.setTop (mkF m 33 #[.val (.ref arc6_0), .val (.int (own_jrc6_0 x_w_running_arc6_0_0)), .val (.ref w_running_arc6_0), .val (.int (6 : Int32)), .val (.int (0 : Int32)), .val (.int x_w_running_arc6_0_0)] [])) _
    refine XS.iinc Xjrc6_4.here hx rfl (hb hby own_d8_33) rfl (l' := #[.val (.ref arc6_0), .val (.int (own_jrc6_0 x_w_running_arc6_0_0)), .val (.ref w_running_arc6_0), .val (.int (6 : Int32)), .val (.int (1 : Int32)), .val (.int x_w_running_arc6_0_0)]) rfl ?_
    refine XS.goto Xjrc6_4.here hx rfl (pc0 := 36) (pc' := 13) rfl (hb hby own_d8_36) (by decide) (by decide) ?_
    refine XS.iload Xjrc6_4.here hx rfl (hb hby own_d8_13) rfl ?_
    refine XS.iloadN Xjrc6_4.here hx rfl (hb hby own_d8_15) rfl ?_
    refine XS.icmpNo Xjrc6_4.here hx rfl (hb hby own_d8_16) rfl (XT.ii_ge_f (by decide : (1 : Int32) < (6 : Int32))) ?_
    refine XS.aloadN Xjrc6_4.here hx rfl (hb hby own_d8_19) rfl rfl ?_
    refine XS.iload Xjrc6_4.here hx rfl (hb hby own_d8_20) rfl ?_
    refine Xjrc6_4.baloadBooleans hx (j := (1 : Int32)) (v := (.int x_w_running_arc6_0_1)) (by rw [ejrc6_4]; exact Arorc6_5.1) (State.isArrayOf_alike hZ.alike Arorc6_5.2.1) Arorc6_5.2.2 hinorc6_5 hatorc6_5 (g := (mkF m 22 #[.val (.ref arc6_0), .val (.int (own_jrc6_0 x_w_running_arc6_0_0)), .val (.ref w_running_arc6_0), .val (.int (6 : Int32)), .val (.int (1 : Int32)), .val (.int x_w_running_arc6_0_0)] [(.int (1 : Int32)), (.ref w_running_arc6_0)])) rfl rfl (hb hby own_d8_22) _ ?_
    show Steps p.tables e below (Tjrc6_4.setTop (mkF m 23 #[.val (.ref arc6_0), .val (.int (own_jrc6_0 x_w_running_arc6_0_0)), .val (.ref w_running_arc6_0), .val (.int (6 : Int32)), .val (.int (1 : Int32)), .val (.int x_w_running_arc6_0_0)] [(.int x_w_running_arc6_0_1)])) _
    refine XS.istore Xjrc6_4.here hx rfl (hb hby own_d8_23) rfl (l' := #[.val (.ref arc6_0), .val (.int (own_jrc6_0 x_w_running_arc6_0_0)), .val (.ref w_running_arc6_0), .val (.int (6 : Int32)), .val (.int (1 : Int32)), .val (.int x_w_running_arc6_0_1)]) rfl ?_
    refine XS.iload Xjrc6_4.here hx rfl (hb hby own_d8_25) rfl ?_
    refine stjrc6_6 _ ?_
    show Steps p.tables e below (Tjrc6_6.setTop (mkF m 33 #[.val (.ref arc6_0), .val (.int (own_jrc6_1 x_w_running_arc6_0_0 x_w_running_arc6_0_1)), .val (.ref w_running_arc6_0), .val (.int (6 : Int32)), .val (.int (1 : Int32)), .val (.int x_w_running_arc6_0_1)] [])) _
    refine XS.iinc Xjrc6_6.here hx rfl (hb hby own_d8_33) rfl (l' := #[.val (.ref arc6_0), .val (.int (own_jrc6_1 x_w_running_arc6_0_0 x_w_running_arc6_0_1)), .val (.ref w_running_arc6_0), .val (.int (6 : Int32)), .val (.int (2 : Int32)), .val (.int x_w_running_arc6_0_1)]) rfl ?_
    refine XS.goto Xjrc6_6.here hx rfl (pc0 := 36) (pc' := 13) rfl (hb hby own_d8_36) (by decide) (by decide) ?_
    refine XS.iload Xjrc6_6.here hx rfl (hb hby own_d8_13) rfl ?_
    refine XS.iloadN Xjrc6_6.here hx rfl (hb hby own_d8_15) rfl ?_
    refine XS.icmpNo Xjrc6_6.here hx rfl (hb hby own_d8_16) rfl (XT.ii_ge_f (by decide : (2 : Int32) < (6 : Int32))) ?_
    refine XS.aloadN Xjrc6_6.here hx rfl (hb hby own_d8_19) rfl rfl ?_
    refine XS.iload Xjrc6_6.here hx rfl (hb hby own_d8_20) rfl ?_
    refine Xjrc6_6.baloadBooleans hx (j := (2 : Int32)) (v := (.int x_w_running_arc6_0_2)) (by rw [ejrc6_6]; exact Arorc6_7.1) (State.isArrayOf_alike hZ.alike Arorc6_7.2.1) Arorc6_7.2.2 hinorc6_7 hatorc6_7 (g := (mkF m 22 #[.val (.ref arc6_0), .val (.int (own_jrc6_1 x_w_running_arc6_0_0 x_w_running_arc6_0_1)), .val (.ref w_running_arc6_0), .val (.int (6 : Int32)), .val (.int (2 : Int32)), .val (.int x_w_running_arc6_0_1)] [(.int (2 : Int32)), (.ref w_running_arc6_0)])) rfl rfl (hb hby own_d8_22) _ ?_
    show Steps p.tables e below (Tjrc6_6.setTop (mkF m 23 #[.val (.ref arc6_0), .val (.int (own_jrc6_1 x_w_running_arc6_0_0 x_w_running_arc6_0_1)), .val (.ref w_running_arc6_0), .val (.int (6 : Int32)), .val (.int (2 : Int32)), .val (.int x_w_running_arc6_0_1)] [(.int x_w_running_arc6_0_2)])) _
    refine XS.istore Xjrc6_6.here hx rfl (hb hby own_d8_23) rfl (l' := #[.val (.ref arc6_0), .val (.int (own_jrc6_1 x_w_running_arc6_0_0 x_w_running_arc6_0_1)), .val (.ref w_running_arc6_0), .val (.int (6 : Int32)), .val (.int (2 : Int32)), .val (.int x_w_running_arc6_0_2)]) rfl ?_
    refine XS.iload Xjrc6_6.here hx rfl (hb hby own_d8_25) rfl ?_
    refine stjrc6_8 _ ?_
    show Steps p.tables e below (Tjrc6_8.setTop (mkF m 33 #[.val (.ref arc6_0), .val (.int (own_jrc6_2 x_w_running_arc6_0_0 x_w_running_arc6_0_1 x_w_running_arc6_0_2)), .val (.ref w_running_arc6_0), .val (.int (6 : Int32)), .val (.int (2 : Int32)), .val (.int x_w_running_arc6_0_2)] [])) _
    refine XS.iinc Xjrc6_8.here hx rfl (hb hby own_d8_33) rfl (l' := #[.val (.ref arc6_0), .val (.int (own_jrc6_2 x_w_running_arc6_0_0 x_w_running_arc6_0_1 x_w_running_arc6_0_2)), .val (.ref w_running_arc6_0), .val (.int (6 : Int32)), .val (.int (3 : Int32)), .val (.int x_w_running_arc6_0_2)]) rfl ?_
    refine XS.goto Xjrc6_8.here hx rfl (pc0 := 36) (pc' := 13) rfl (hb hby own_d8_36) (by decide) (by decide) ?_
    refine XS.iload Xjrc6_8.here hx rfl (hb hby own_d8_13) rfl ?_
    refine XS.iloadN Xjrc6_8.here hx rfl (hb hby own_d8_15) rfl ?_
    refine XS.icmpNo Xjrc6_8.here hx rfl (hb hby own_d8_16) rfl (XT.ii_ge_f (by decide : (3 : Int32) < (6 : Int32))) ?_
    refine XS.aloadN Xjrc6_8.here hx rfl (hb hby own_d8_19) rfl rfl ?_
    refine XS.iload Xjrc6_8.here hx rfl (hb hby own_d8_20) rfl ?_
    refine Xjrc6_8.baloadBooleans hx (j := (3 : Int32)) (v := (.int x_w_running_arc6_0_3)) (by rw [ejrc6_8]; exact Arorc6_9.1) (State.isArrayOf_alike hZ.alike Arorc6_9.2.1) Arorc6_9.2.2 hinorc6_9 hatorc6_9 (g := (mkF m 22 #[.val (.ref arc6_0), .val (.int (own_jrc6_2 x_w_running_arc6_0_0 x_w_running_arc6_0_1 x_w_running_arc6_0_2)), .val (.ref w_running_arc6_0), .val (.int (6 : Int32)), .val (.int (3 : Int32)), .val (.int x_w_running_arc6_0_2)] [(.int (3 : Int32)), (.ref w_running_arc6_0)])) rfl rfl (hb hby own_d8_22) _ ?_
    show Steps p.tables e below (Tjrc6_8.setTop (mkF m 23 #[.val (.ref arc6_0), .val (.int (own_jrc6_2 x_w_running_arc6_0_0 x_w_running_arc6_0_1 x_w_running_arc6_0_2)), .val (.ref w_running_arc6_0), .val (.int (6 : Int32)), .val (.int (3 : Int32)), .val (.int x_w_running_arc6_0_2)] [(.int x_w_running_arc6_0_3)])) _
    refine XS.istore Xjrc6_8.here hx rfl (hb hby own_d8_23) rfl (l' := #[.val (.ref arc6_0), .val (.int (own_jrc6_2 x_w_running_arc6_0_0 x_w_running_arc6_0_1 x_w_running_arc6_0_2)), .val (.ref w_running_arc6_0), .val (.int (6 : Int32)), .val (.int (3 : Int32)), .val (.int x_w_running_arc6_0_3)]) rfl ?_
    refine XS.iload Xjrc6_8.here hx rfl (hb hby own_d8_25) rfl ?_
    refine stjrc6_10 _ ?_
    show Steps p.tables e below (Tjrc6_10.setTop (mkF m 33 #[.val (.ref arc6_0), .val (.int (own_jrc6_3 x_w_running_arc6_0_0 x_w_running_arc6_0_1 x_w_running_arc6_0_2 x_w_running_arc6_0_3)), .val (.ref w_running_arc6_0), .val (.int (6 : Int32)), .val (.int (3 : Int32)), .val (.int x_w_running_arc6_0_3)] [])) _
    refine XS.iinc Xjrc6_10.here hx rfl (hb hby own_d8_33) rfl (l' := #[.val (.ref arc6_0), .val (.int (own_jrc6_3 x_w_running_arc6_0_0 x_w_running_arc6_0_1 x_w_running_arc6_0_2 x_w_running_arc6_0_3)), .val (.ref w_running_arc6_0), .val (.int (6 : Int32)), .val (.int (4 : Int32)), .val (.int x_w_running_arc6_0_3)]) rfl ?_
    refine XS.goto Xjrc6_10.here hx rfl (pc0 := 36) (pc' := 13) rfl (hb hby own_d8_36) (by decide) (by decide) ?_
    refine XS.iload Xjrc6_10.here hx rfl (hb hby own_d8_13) rfl ?_
    refine XS.iloadN Xjrc6_10.here hx rfl (hb hby own_d8_15) rfl ?_
    refine XS.icmpNo Xjrc6_10.here hx rfl (hb hby own_d8_16) rfl (XT.ii_ge_f (by decide : (4 : Int32) < (6 : Int32))) ?_
    refine XS.aloadN Xjrc6_10.here hx rfl (hb hby own_d8_19) rfl rfl ?_
    refine XS.iload Xjrc6_10.here hx rfl (hb hby own_d8_20) rfl ?_
    refine Xjrc6_10.baloadBooleans hx (j := (4 : Int32)) (v := (.int x_w_running_arc6_0_4)) (by rw [ejrc6_10]; exact Arorc6_11.1) (State.isArrayOf_alike hZ.alike Arorc6_11.2.1) Arorc6_11.2.2 hinorc6_11 hatorc6_11 (g := (mkF m 22 #[.val (.ref arc6_0), .val (.int (own_jrc6_3 x_w_running_arc6_0_0 x_w_running_arc6_0_1 x_w_running_arc6_0_2 x_w_running_arc6_0_3)), .val (.ref w_running_arc6_0), .val (.int (6 : Int32)), .val (.int (4 : Int32)), .val (.int x_w_running_arc6_0_3)] [(.int (4 : Int32)), (.ref w_running_arc6_0)])) rfl rfl (hb hby own_d8_22) _ ?_
    show Steps p.tables e below (Tjrc6_10.setTop (mkF m 23 #[.val (.ref arc6_0), .val (.int (own_jrc6_3 x_w_running_arc6_0_0 x_w_running_arc6_0_1 x_w_running_arc6_0_2 x_w_running_arc6_0_3)), .val (.ref w_running_arc6_0), .val (.int (6 : Int32)), .val (.int (4 : Int32)), .val (.int x_w_running_arc6_0_3)] [(.int x_w_running_arc6_0_4)])) _
    refine XS.istore Xjrc6_10.here hx rfl (hb hby own_d8_23) rfl (l' := #[.val (.ref arc6_0), .val (.int (own_jrc6_3 x_w_running_arc6_0_0 x_w_running_arc6_0_1 x_w_running_arc6_0_2 x_w_running_arc6_0_3)), .val (.ref w_running_arc6_0), .val (.int (6 : Int32)), .val (.int (4 : Int32)), .val (.int x_w_running_arc6_0_4)]) rfl ?_
    refine XS.iload Xjrc6_10.here hx rfl (hb hby own_d8_25) rfl ?_
    refine stjrc6_12 _ ?_
    show Steps p.tables e below (Tjrc6_12.setTop (mkF m 33 #[.val (.ref arc6_0), .val (.int (own_jrc6_4 x_w_running_arc6_0_0 x_w_running_arc6_0_1 x_w_running_arc6_0_2 x_w_running_arc6_0_3 x_w_running_arc6_0_4)), .val (.ref w_running_arc6_0), .val (.int (6 : Int32)), .val (.int (4 : Int32)), .val (.int x_w_running_arc6_0_4)] [])) _
    refine XS.iinc Xjrc6_12.here hx rfl (hb hby own_d8_33) rfl (l' := #[.val (.ref arc6_0), .val (.int (own_jrc6_4 x_w_running_arc6_0_0 x_w_running_arc6_0_1 x_w_running_arc6_0_2 x_w_running_arc6_0_3 x_w_running_arc6_0_4)), .val (.ref w_running_arc6_0), .val (.int (6 : Int32)), .val (.int (5 : Int32)), .val (.int x_w_running_arc6_0_4)]) rfl ?_
    refine XS.goto Xjrc6_12.here hx rfl (pc0 := 36) (pc' := 13) rfl (hb hby own_d8_36) (by decide) (by decide) ?_
    refine XS.iload Xjrc6_12.here hx rfl (hb hby own_d8_13) rfl ?_
    refine XS.iloadN Xjrc6_12.here hx rfl (hb hby own_d8_15) rfl ?_
    refine XS.icmpNo Xjrc6_12.here hx rfl (hb hby own_d8_16) rfl (XT.ii_ge_f (by decide : (5 : Int32) < (6 : Int32))) ?_
    refine XS.aloadN Xjrc6_12.here hx rfl (hb hby own_d8_19) rfl rfl ?_
    refine XS.iload Xjrc6_12.here hx rfl (hb hby own_d8_20) rfl ?_
    refine Xjrc6_12.baloadBooleans hx (j := (5 : Int32)) (v := (.int x_w_running_arc6_0_5)) (by rw [ejrc6_12]; exact Arorc6_13.1) (State.isArrayOf_alike hZ.alike Arorc6_13.2.1) Arorc6_13.2.2 hinorc6_13 hatorc6_13 (g := (mkF m 22 #[.val (.ref arc6_0), .val (.int (own_jrc6_4 x_w_running_arc6_0_0 x_w_running_arc6_0_1 x_w_running_arc6_0_2 x_w_running_arc6_0_3 x_w_running_arc6_0_4)), .val (.ref w_running_arc6_0), .val (.int (6 : Int32)), .val (.int (5 : Int32)), .val (.int x_w_running_arc6_0_4)] [(.int (5 : Int32)), (.ref w_running_arc6_0)])) rfl rfl (hb hby own_d8_22) _ ?_
    show Steps p.tables e below (Tjrc6_12.setTop (mkF m 23 #[.val (.ref arc6_0), .val (.int (own_jrc6_4 x_w_running_arc6_0_0 x_w_running_arc6_0_1 x_w_running_arc6_0_2 x_w_running_arc6_0_3 x_w_running_arc6_0_4)), .val (.ref w_running_arc6_0), .val (.int (6 : Int32)), .val (.int (5 : Int32)), .val (.int x_w_running_arc6_0_4)] [(.int x_w_running_arc6_0_5)])) _
    refine XS.istore Xjrc6_12.here hx rfl (hb hby own_d8_23) rfl (l' := #[.val (.ref arc6_0), .val (.int (own_jrc6_4 x_w_running_arc6_0_0 x_w_running_arc6_0_1 x_w_running_arc6_0_2 x_w_running_arc6_0_3 x_w_running_arc6_0_4)), .val (.ref w_running_arc6_0), .val (.int (6 : Int32)), .val (.int (5 : Int32)), .val (.int x_w_running_arc6_0_5)]) rfl ?_
    refine XS.iload Xjrc6_12.here hx rfl (hb hby own_d8_25) rfl ?_
    refine stjrc6_14 _ ?_
    show Steps p.tables e below (Tjrc6_14.setTop (mkF m 33 #[.val (.ref arc6_0), .val (.int (own_jrc6_5 x_w_running_arc6_0_0 x_w_running_arc6_0_1 x_w_running_arc6_0_2 x_w_running_arc6_0_3 x_w_running_arc6_0_4 x_w_running_arc6_0_5)), .val (.ref w_running_arc6_0), .val (.int (6 : Int32)), .val (.int (5 : Int32)), .val (.int x_w_running_arc6_0_5)] [])) _
    refine XS.iinc Xjrc6_14.here hx rfl (hb hby own_d8_33) rfl (l' := #[.val (.ref arc6_0), .val (.int (own_jrc6_5 x_w_running_arc6_0_0 x_w_running_arc6_0_1 x_w_running_arc6_0_2 x_w_running_arc6_0_3 x_w_running_arc6_0_4 x_w_running_arc6_0_5)), .val (.ref w_running_arc6_0), .val (.int (6 : Int32)), .val (.int (6 : Int32)), .val (.int x_w_running_arc6_0_5)]) rfl ?_
    refine XS.goto Xjrc6_14.here hx rfl (pc0 := 36) (pc' := 13) rfl (hb hby own_d8_36) (by decide) (by decide) ?_
    refine XS.iload Xjrc6_14.here hx rfl (hb hby own_d8_13) rfl ?_
    refine XS.iloadN Xjrc6_14.here hx rfl (hb hby own_d8_15) rfl ?_
    refine XS.icmpYes Xjrc6_14.here hx rfl (pc0 := 16) (pc' := 39) rfl (hb hby own_d8_16) rfl (XT.ii_ge_t (by decide : ¬ ((6 : Int32) < (6 : Int32)))) (by decide) (by decide) ?_
    refine XS.iloadN Xjrc6_14.here hx rfl (hb hby own_d8_39) rfl ?_
    show Steps p.tables e below (Tjrc6_14.setTop (mkF m 40 #[.val (.ref arc6_0), .val (.int (own_jrc6_5 x_w_running_arc6_0_0 x_w_running_arc6_0_1 x_w_running_arc6_0_2 x_w_running_arc6_0_3 x_w_running_arc6_0_4 x_w_running_arc6_0_5)), .val (.ref w_running_arc6_0), .val (.int (6 : Int32)), .val (.int (6 : Int32)), .val (.int x_w_running_arc6_0_5)] [(.int (own_jrc6_5 x_w_running_arc6_0_0 x_w_running_arc6_0_1 x_w_running_arc6_0_2 x_w_running_arc6_0_3 x_w_running_arc6_0_4 x_w_running_arc6_0_5))])) _
    exact retI Xjrc6_14 hx Bd.returns (hb hby own_d8_40) hr
  · show own_Qrc6 Z arc6_0 w_running_arc6_0 k_w_running_arc6_0 x_w_running_arc6_0_0 x_w_running_arc6_0_1 x_w_running_arc6_0_2 x_w_running_arc6_0_3 x_w_running_arc6_0_4 x_w_running_arc6_0_5 h0 n0 _ Tjrc6_14.heap _
    rw [ejrc6_14]
    exact ⟨rfl, Njrc6_14, rfl⟩
theorem own_pd4 : parseMethodDescriptor "(II)[Z" = some ⟨[.int, .int], some (.array .boolean)⟩ := by decide +kernel
theorem own_pd5 : parseMethodDescriptor "(II)[I" = some ⟨[.int, .int], some (.array .int)⟩ := by decide +kernel
theorem own_pd6 : parseMethodDescriptor "(II)[D" = some ⟨[.int, .int], some (.array .double)⟩ := by decide +kernel
theorem own_pd7 : parseMethodDescriptor "([I[D[ZD)V" = some ⟨[(.array .int), (.array .double), (.array .boolean), .double], none⟩ := by decide +kernel
theorem own_pd8 : parseMethodDescriptor "()I" = some ⟨[], some .int⟩ := by decide +kernel
def own_v0c0_0 (p0c0_0 : Int32) : Int32 := ((p0c0_0 &&& (2147483647 : Int32)) - ((p0c0_0 &&& (2147483647 : Int32)) / (7 : Int32)) * (7 : Int32))
def own_v0c0_1 (p0c0_3 : Int32) : UInt64 := (FP.i2d (p0c0_3 &&& (255 : Int32)))
def own_v0c0_2 (p0c0_1 : Int32) : Int32 := (p0c0_1 &&& (((1 : Int32) <<< ((0 : Int32) &&& 31)) - (1 : Int32)))
def own_v0c0_3 (p0c0_1 : Int32) : Int32 := (((((((own_v0c0_2 p0c0_1) &&& (1 : Int32)) + (((own_v0c0_2 p0c0_1) >>> ((1 : Int32) &&& 31)) &&& (1 : Int32))) + (((own_v0c0_2 p0c0_1) >>> ((2 : Int32) &&& 31)) &&& (1 : Int32))) + (((own_v0c0_2 p0c0_1) >>> ((3 : Int32) &&& 31)) &&& (1 : Int32))) + (((own_v0c0_2 p0c0_1) >>> ((4 : Int32) &&& 31)) &&& (1 : Int32))) + (((own_v0c0_2 p0c0_1) >>> ((5 : Int32) &&& 31)) &&& (1 : Int32)))
theorem own_ef0c0 (m : MethodId) (p0c0_0 : Int32) (p0c0_1 : Int32) (p0c0_2 : Int32) (p0c0_3 : Int32) : entryFrame m #[(.int p0c0_0), (.int p0c0_1), (.int p0c0_2), (.int p0c0_3)] maxLocals = mkF m 0 #[.val (.int p0c0_0), .val (.int p0c0_1), .val (.int p0c0_2), .val (.int p0c0_3), .unset, .unset, .unset, .unset, .unset, .unset, .unset, .unset, .unset, .unset] [] := by first | (simp [entryFrame, mkF, argsToLocals, Value.category, maxLocals]; done) | rfl
def own_Q0c0 (Z : State) (p0c0_0 : Int32) (p0c0_1 : Int32) (p0c0_2 : Int32) (p0c0_3 : Int32) (h0 : Heap) (n0 : Nat) (v : Option Value) (h : Heap) (L : List Loc) : Prop := v = some (.int (1 : Int32)) ∧ Fr n0 L
set_option maxRecDepth 65536 in
set_option maxHeartbeats 40000000 in
theorem own_rm0c0 (l : Launch) (Z : State) (a0 : Array Value) (hw : ∀ d ∈ tables_1, d.before a0 Z = true) (ws : List Jvm.Cond) (p0c0_0 : Int32) (p0c0_1 : Int32) (p0c0_2 : Int32) (p0c0_3 : Int32) (h0 : Heap) (n0 : Nat) (Z0 : n0 ≤ h0.size) (fx7 : (own_v0c0_0 p0c0_0) = (0 : Int32)) (hc120 : (0 : Int32) = (own_v0c0_3 p0c0_1)) :
    MetFree l x (head1 (Jvm.Cond.code x code maxLocals ret :: ws) room_1) (fun a U => a = #[(.int p0c0_0), (.int p0c0_1), (.int p0c0_2), (.int p0c0_3)] ∧ Z.Warmed39 U.vm ∧ U.heap = h0) (fun _ _ _ _ _ => True) (fun _ U o U' => ∃ v L, o = .returned v ∧ own_Q0c0 Z p0c0_0 p0c0_1 p0c0_2 p0c0_3 h0 n0 v U'.heap L ∧ FrameEnd U o U' L room_1.cells room_1.slots) := by
  refine MetFree.of_bodySF (plainFor_of_name own_pn0) hisR ?_
  intro p e s m args below meth c s₁ Bd hml0 hP hK
  obtain ⟨rfl, hZ, hh⟩ := hP
  have hx := Bd.exec
  have hby := Bd.bytes
  have hml : c.maxLocals = 14 := hml0
  have hown : s.vm.findClass "com/example/arborway/arborway/sim/WalkRunningCountPinLaw" = some m.cls := findClass_of_methodNamed Bd.named
  have hnm := (name_of_methodNamed Bd.named Bd.method).1
  have X0 : Stand p l e room_1 s m #[(.int p0c0_0), (.int p0c0_1), (.int p0c0_2), (.int p0c0_3)] below meth c s₁ [] 0 0 := Stand.of_body Bd
  have e0 : s₁.heap = h0 := by rw [← hh, Bd.state]; rfl
  have N0 := Fr.nil n0
  have Zr : h0.size ≤ h0.size := Nat.le_refl _
  have pre0 : ∀ t, Steps p.tables e below (s₁.setTop (mkF m 0 #[.val (.int p0c0_0), .val (.int p0c0_1), .val (.int p0c0_2), .val (.int p0c0_3), .unset, .unset, .unset, .unset, .unset, .unset, .unset, .unset, .unset, .unset] [])) t → Steps p.tables e below (s₁.setTop (entryFrame m #[(.int p0c0_0), (.int p0c0_1), (.int p0c0_2), (.int p0c0_3)] maxLocals)) t := fun t k => castTop (own_ef0c0 m p0c0_0 p0c0_1 p0c0_2 p0c0_3) k
  obtain ⟨_, _, ⟨Tk0c0_1, Lk0c0_1, kk0c0_1, nk0c0_1⟩, -, Xk0c0_1, ⟨Lck0c0_1, hQk0c0_1, lk0c0_1, yk0c0_1, zk0c0_1⟩, stk0c0_1⟩ := Jvm.LawKit.callS X0 hx (y := (⟨"com/example/arborway/arborway/sim/WalkRunningCountPinLaw", "runs", "(II)[Z"⟩ : MethodName)) hown (mvT hZ (own_W hw 1 rfl)) (mvT hZ (own_W hw 2 rfl)) (mvT hZ (own_W hw 3 rfl)) (mvT hZ (own_W hw 4 rfl)) (by decide) (backOf (W := 0) (own_rmruns0 l Z a0 hw [] p0c0_1 h0 n0 Z0) hZ (own_W hw 4 rfl) (own_W hw 3 rfl) (by decide) (by decide)) (g := (mkF m 12 #[.val (.int p0c0_0), .val (.int p0c0_1), .val (.int p0c0_2), .val (.int p0c0_3), .val (.int (0 : Int32)), .unset, .unset, .unset, .unset, .unset, .unset, .unset, .unset, .unset] [(.int p0c0_1), (.int (0 : Int32))])) rfl (by rw [hml]; rfl) (argsL := [(.int (0 : Int32)), (.int p0c0_1)]) (rest := []) (lenOf own_pd4 rfl) rfl (by show 2 * 0 + _ ≤ _; exact Nat.le_of_eq rfl) (hb hby at_12) (fun _ _ => ⟨rfl, e0, (by decide : 0 + 1 ≤ _), (by decide : 0 + 0 ≤ _)⟩)
  dsimp only [Pt.U, Pt.locs, Pt.cells, Pt.slots] at Xk0c0_1 lk0c0_1 yk0c0_1 zk0c0_1 stk0c0_1 hQk0c0_1
  replace lk0c0_1 := lk0c0_1.symm; replace yk0c0_1 := yk0c0_1.symm; replace zk0c0_1 := zk0c0_1.symm; subst lk0c0_1 yk0c0_1 zk0c0_1
  obtain ⟨bk0c0_1_0, kk0c0_1_1, rfl, Nk0c0_1q, Kk0c0_1, lebk0c0_1_0, Qk0c0_1_0⟩ := hQk0c0_1
  have g_bk0c0_1_0 : n0 ≤ bk0c0_1_0 := Nat.le_trans Z0 lebk0c0_1_0
  have sz_bk0c0_1_0 : h0.size ≤ bk0c0_1_0 := Nat.le_trans Zr lebk0c0_1_0
  have sz0c0_2 : h0.size ≤ Tk0c0_1.heap.size := Nat.le_trans Zr Kk0c0_1.1
  have Nk0c0_1 := Fr.app N0 Nk0c0_1q
  obtain ⟨_, _, ⟨Tk0c0_3, Lk0c0_3, kk0c0_3, nk0c0_3⟩, -, Xk0c0_3, ⟨Lck0c0_3, hQk0c0_3, lk0c0_3, yk0c0_3, zk0c0_3⟩, stk0c0_3⟩ := Jvm.LawKit.callS Xk0c0_1 hx (y := (⟨"com/example/arborway/arborway/sim/WalkRunningCountPinLaw", "depths", "(II)[I"⟩ : MethodName)) hown (mvT hZ (own_W hw 9 rfl)) (mvT hZ (own_W hw 10 rfl)) (mvT hZ (own_W hw 3 rfl)) (mvT hZ (own_W hw 11 rfl)) (by decide) (backOf (W := 0) (own_rmdepths0 l Z a0 hw [] p0c0_2 Tk0c0_1.heap n0 (Nat.le_trans Z0 sz0c0_2)) hZ (own_W hw 11 rfl) (own_W hw 3 rfl) (by decide) (by decide)) (g := (mkF m 20 #[.val (.int p0c0_0), .val (.int p0c0_1), .val (.int p0c0_2), .val (.int p0c0_3), .val (.int (0 : Int32)), .val (.ref bk0c0_1_0), .unset, .unset, .unset, .unset, .unset, .unset, .unset, .unset] [(.int p0c0_2), (.int (0 : Int32))])) rfl (by rw [hml]; rfl) (argsL := [(.int (0 : Int32)), (.int p0c0_2)]) (rest := []) (lenOf own_pd5 rfl) rfl (by show 2 * 0 + _ ≤ _; exact Nat.le_of_eq rfl) (hb hby at_20) (fun _ _ => ⟨rfl, rfl, (by decide : 1 + 1 ≤ _), (by decide : 0 + 0 ≤ _)⟩)
  dsimp only [Pt.U, Pt.locs, Pt.cells, Pt.slots] at Xk0c0_3 lk0c0_3 yk0c0_3 zk0c0_3 stk0c0_3 hQk0c0_3
  replace lk0c0_3 := lk0c0_3.symm; replace yk0c0_3 := yk0c0_3.symm; replace zk0c0_3 := zk0c0_3.symm; subst lk0c0_3 yk0c0_3 zk0c0_3
  obtain ⟨bk0c0_3_0, kk0c0_3_1, rfl, Nk0c0_3q, Kk0c0_3, lebk0c0_3_0, Qk0c0_3_0⟩ := hQk0c0_3
  have g_bk0c0_3_0 : n0 ≤ bk0c0_3_0 := Nat.le_trans (Nat.le_trans Z0 sz0c0_2) lebk0c0_3_0
  have sz_bk0c0_3_0 : h0.size ≤ bk0c0_3_0 := Nat.le_trans sz0c0_2 lebk0c0_3_0
  have sz0c0_4 : h0.size ≤ Tk0c0_3.heap.size := Nat.le_trans sz0c0_2 Kk0c0_3.1
  have Nk0c0_3 := Fr.app Nk0c0_1 Nk0c0_3q
  obtain ⟨_, _, ⟨Tk0c0_5, Lk0c0_5, kk0c0_5, nk0c0_5⟩, -, Xk0c0_5, ⟨Lck0c0_5, hQk0c0_5, lk0c0_5, yk0c0_5, zk0c0_5⟩, stk0c0_5⟩ := Jvm.LawKit.callS Xk0c0_3 hx (y := (⟨"com/example/arborway/arborway/sim/WalkRunningCountPinLaw", "delays", "(II)[D"⟩ : MethodName)) hown (mvT hZ (own_W hw 13 rfl)) (mvT hZ (own_W hw 14 rfl)) (mvT hZ (own_W hw 3 rfl)) (mvT hZ (own_W hw 15 rfl)) (by decide) (backOf (W := 0) (own_rmdelays0 l Z a0 hw [] p0c0_2 Tk0c0_3.heap n0 (Nat.le_trans Z0 sz0c0_4)) hZ (own_W hw 15 rfl) (own_W hw 3 rfl) (by decide) (by decide)) (g := (mkF m 28 #[.val (.int p0c0_0), .val (.int p0c0_1), .val (.int p0c0_2), .val (.int p0c0_3), .val (.int (0 : Int32)), .val (.ref bk0c0_1_0), .val (.ref bk0c0_3_0), .unset, .unset, .unset, .unset, .unset, .unset, .unset] [(.int p0c0_2), (.int (0 : Int32))])) rfl (by rw [hml]; rfl) (argsL := [(.int (0 : Int32)), (.int p0c0_2)]) (rest := []) (lenOf own_pd6 rfl) rfl (by show 2 * 0 + _ ≤ _; exact Nat.le_of_eq rfl) (hb hby at_28) (fun _ _ => ⟨rfl, rfl, (by decide : 2 + 1 ≤ _), (by decide : 0 + 0 ≤ _)⟩)
  dsimp only [Pt.U, Pt.locs, Pt.cells, Pt.slots] at Xk0c0_5 lk0c0_5 yk0c0_5 zk0c0_5 stk0c0_5 hQk0c0_5
  replace lk0c0_5 := lk0c0_5.symm; replace yk0c0_5 := yk0c0_5.symm; replace zk0c0_5 := zk0c0_5.symm; subst lk0c0_5 yk0c0_5 zk0c0_5
  obtain ⟨bk0c0_5_0, kk0c0_5_1, rfl, Nk0c0_5q, Kk0c0_5, lebk0c0_5_0, Qk0c0_5_0⟩ := hQk0c0_5
  have g_bk0c0_5_0 : n0 ≤ bk0c0_5_0 := Nat.le_trans (Nat.le_trans Z0 sz0c0_4) lebk0c0_5_0
  have sz_bk0c0_5_0 : h0.size ≤ bk0c0_5_0 := Nat.le_trans sz0c0_4 lebk0c0_5_0
  have sz0c0_6 : h0.size ≤ Tk0c0_5.heap.size := Nat.le_trans sz0c0_4 Kk0c0_5.1
  have Nk0c0_5 := Fr.app Nk0c0_3 Nk0c0_5q
  obtain ⟨Tn0c0_7, hn0c0_7, Xn0c0_7, en0c0_7, En0c0_7, An0c0_7, Dn0c0_7, -, stn0c0_7⟩ := newO Xk0c0_5 hx hZ hown (own_W hw 17 rfl) (own_W hw 18 rfl) (own_W hw 19 rfl) rfl (g := (mkF m 41 #[.val (.int p0c0_0), .val (.int p0c0_1), .val (.int p0c0_2), .val (.int p0c0_3), .val (.int (0 : Int32)), .val (.ref bk0c0_1_0), .val (.ref bk0c0_3_0), .val (.ref bk0c0_5_0), .val (.double (own_v0c0_1 p0c0_3)), .second, .unset, .unset, .unset, .unset] [])) rfl (hb hby at_41) (by decide) (by decide)
  obtain ⟨bn0c0_7, gn0c0_7⟩ : ∃ z, z = Tk0c0_5.heap.size := ⟨_, rfl⟩
  rw [← gn0c0_7] at An0c0_7 Dn0c0_7 stn0c0_7
  have g_bn0c0_7 : n0 ≤ bn0c0_7 := Nat.le_trans (Nat.le_trans Z0 sz0c0_6) (Nat.le_of_eq gn0c0_7.symm)
  have sz_bn0c0_7 : h0.size ≤ bn0c0_7 := Nat.le_trans sz0c0_6 (Nat.le_of_eq gn0c0_7.symm)
  have sz0c0_8 : h0.size ≤ hn0c0_7.size := Nat.le_trans sz0c0_6 En0c0_7.1
  have F_depth_bn0c0_7 : Fld Z hn0c0_7 bn0c0_7 "com/example/arborway/arborway/sim/RunTally$Walk" "depth" "[I" .null := Dn0c0_7 (Or.inr (own_W hw 32 rfl)) (ty := (.array .int)) (by decide)
  have F_rootDelayMs_bn0c0_7 : Fld Z hn0c0_7 bn0c0_7 "com/example/arborway/arborway/sim/RunTally$Walk" "rootDelayMs" "[D" .null := Dn0c0_7 (Or.inr (own_W hw 34 rfl)) (ty := (.array .double)) (by decide)
  have F_running_bn0c0_7 : Fld Z hn0c0_7 bn0c0_7 "com/example/arborway/arborway/sim/RunTally$Walk" "running" "[Z" .null := Dn0c0_7 (Or.inr (own_W hw 36 rfl)) (ty := (.array .boolean)) (by decide)
  have F_costMs_bn0c0_7 : Fld Z hn0c0_7 bn0c0_7 "com/example/arborway/arborway/sim/RunTally$Walk" "costMs" "D" (.double (0 : UInt64)) := Dn0c0_7 (Or.inr (own_W hw 38 rfl)) (ty := .double) (by decide)
  obtain ⟨_, _, ⟨Tk0c0_9, Lk0c0_9, kk0c0_9, nk0c0_9⟩, -, Xk0c0_9, ⟨Lck0c0_9, hQk0c0_9, lk0c0_9, yk0c0_9, zk0c0_9⟩, stk0c0_9⟩ := Xn0c0_7.specialBack hx (y := (⟨"com/example/arborway/arborway/sim/RunTally$Walk", "<init>", "([I[D[ZD)V"⟩ : MethodName)) rfl hown (mvT hZ (own_W hw 20 rfl)) (mvT hZ (own_W hw 21 rfl)) (mvT hZ (own_W hw 22 rfl)) (by decide) (backOf (W := 1) (own_rm5 l Z a0 hw [] bn0c0_7 bk0c0_3_0 bk0c0_5_0 bk0c0_1_0 (own_v0c0_1 p0c0_3) .null .null .null (.double (0 : UInt64)) hn0c0_7 n0 (Nat.le_trans Z0 sz0c0_8) An0c0_7 F_depth_bn0c0_7 g_bn0c0_7 F_rootDelayMs_bn0c0_7 F_running_bn0c0_7 F_costMs_bn0c0_7) hZ (own_W hw 22 rfl) (own_W hw 19 rfl) (by decide) (by decide)) (g := (mkF m 53 #[.val (.int p0c0_0), .val (.int p0c0_1), .val (.int p0c0_2), .val (.int p0c0_3), .val (.int (0 : Int32)), .val (.ref bk0c0_1_0), .val (.ref bk0c0_3_0), .val (.ref bk0c0_5_0), .val (.double (own_v0c0_1 p0c0_3)), .second, .unset, .unset, .unset, .unset] [(.double (own_v0c0_1 p0c0_3)), (.ref bk0c0_1_0), (.ref bk0c0_5_0), (.ref bk0c0_3_0), (.ref bn0c0_7), (.ref bn0c0_7)])) rfl (by rw [hml]; rfl) (Steps.refl _) (a := bn0c0_7) (argsL := [(.ref bk0c0_3_0), (.ref bk0c0_5_0), (.ref bk0c0_1_0), (.double (own_v0c0_1 p0c0_3))]) (rest := [(.ref bn0c0_7)]) (lenOf own_pd7 rfl) rfl (by show 2 * 0 + _ ≤ _; exact Nat.le_of_eq rfl) (hb hby at_53) (fun _ _ => ⟨rfl, en0c0_7, (by decide : 4 + 0 ≤ _), (by decide : 4 + 0 ≤ _)⟩)
  dsimp only [Pt.U, Pt.locs, Pt.cells, Pt.slots] at Xk0c0_9 lk0c0_9 yk0c0_9 zk0c0_9 stk0c0_9 hQk0c0_9
  replace lk0c0_9 := lk0c0_9.symm; replace yk0c0_9 := yk0c0_9.symm; replace zk0c0_9 := zk0c0_9.symm; subst lk0c0_9 yk0c0_9 zk0c0_9
  obtain ⟨rfl, Nk0c0_9q, Kk0c0_9, Qk0c0_9_0, Qk0c0_9_1, Qk0c0_9_2, Qk0c0_9_3, Qk0c0_9_4⟩ := hQk0c0_9
  have sz0c0_10 : h0.size ≤ Tk0c0_9.heap.size := Nat.le_trans sz0c0_8 Kk0c0_9.1
  have Nk0c0_9 := Fr.app Nk0c0_5 Nk0c0_9q
  have ne0c0_12 : bk0c0_1_0 ≠ bn0c0_7 := (Nat.ne_of_lt (Nat.lt_of_lt_of_le ((Qk0c0_1_0.keep Kk0c0_3 nin0).keep Kk0c0_5 nin0).lt (Nat.le_of_eq gn0c0_7.symm)))
  have F0c0_13 := ((((Qk0c0_1_0.keep Kk0c0_3 nin0).keep Kk0c0_5 nin0).ext En0c0_7).keep Kk0c0_9 (ninS ne0c0_12 nin0))
  obtain ⟨cqk0c0_11, kqk0c0_11, qk0c0_11a, qk0c0_11b, qk0c0_11c⟩ := isOf hZ rfl Qk0c0_9_0
  obtain ⟨_, _, ⟨Tk0c0_11, Lk0c0_11, kk0c0_11, nk0c0_11⟩, -, Xk0c0_11, ⟨Lck0c0_11, hQk0c0_11, lk0c0_11, yk0c0_11, zk0c0_11⟩, stk0c0_11⟩ := Xk0c0_9.virtualBack hx (y := (⟨"com/example/arborway/arborway/sim/RunTally$Walk", "runningCount", "()I"⟩ : MethodName)) (z := (⟨"com/example/arborway/arborway/sim/RunTally$Walk", "runningCount", "()I"⟩ : MethodName)) hown (mvT hZ (own_W hw 39 rfl)) (mvT hZ (own_W hw 40 rfl)) (notFace_of_selects (args := #[]) (mvT hZ (own_W hw 42 rfl))) (mvT hZ (own_W hw 42 rfl)) (mvT hZ (own_W hw 41 rfl)) (by decide) (backOf (W := 0) (own_rmrc0 l Z a0 hw [] bn0c0_7 bk0c0_1_0 kk0c0_1_1 Tk0c0_9.heap n0 (Nat.le_trans Z0 sz0c0_10) Qk0c0_9_3 F0c0_13) hZ (own_W hw 43 rfl) (own_W hw 19 rfl) (by decide) (by decide)) qk0c0_11a qk0c0_11c (g := (mkF m 60 #[.val (.int p0c0_0), .val (.int p0c0_1), .val (.int p0c0_2), .val (.int p0c0_3), .val (.int (0 : Int32)), .val (.ref bk0c0_1_0), .val (.ref bk0c0_3_0), .val (.ref bk0c0_5_0), .val (.double (own_v0c0_1 p0c0_3)), .second, .val (.ref bn0c0_7), .unset, .unset, .unset] [(.ref bn0c0_7)])) rfl (by rw [hml]; rfl) (Steps.refl _) (argsL := []) (rest := []) (lenOf own_pd8 rfl) rfl (by show 2 * 0 + _ ≤ _; exact Nat.le_of_eq rfl) (hb hby at_60) (fun _ _ => ⟨rfl, rfl, (by decide : 4 + 0 ≤ _), (by decide : 4 + 0 ≤ _)⟩)
  dsimp only [Pt.U, Pt.locs, Pt.cells, Pt.slots] at Xk0c0_11 lk0c0_11 yk0c0_11 zk0c0_11 stk0c0_11 hQk0c0_11
  replace lk0c0_11 := lk0c0_11.symm; replace yk0c0_11 := yk0c0_11.symm; replace zk0c0_11 := zk0c0_11.symm; subst lk0c0_11 yk0c0_11 zk0c0_11
  obtain ⟨rfl, Nk0c0_11q, ek0c0_11⟩ := hQk0c0_11
  have Nk0c0_11 := Fr.app Nk0c0_9 Nk0c0_11q
  obtain ⟨fs, hr, hrun, hended, hW, hsame⟩ := Xk0c0_11.leave (v := some (.int (1 : Int32))) (fun h => by rw [Bd.returns] at h; cases h)
  refine ⟨_, _, pre0 _ (?_), hrun, hended, _, _, rfl, ?_, ⟨_, rfl⟩, hW, hsame.mono (by decide) (by decide)⟩
  · show Steps p.tables e below (s₁.setTop (mkF m 0 #[.val (.int p0c0_0), .val (.int p0c0_1), .val (.int p0c0_2), .val (.int p0c0_3), .unset, .unset, .unset, .unset, .unset, .unset, .unset, .unset, .unset, .unset] [])) _
    refine XS.iloadN X0.here hx rfl (hb hby at_0) rfl ?_
    refine X0.ldcInt hx hown (mvT hZ (own_W hw 0 rfl)) (g := (mkF m 1 #[.val (.int p0c0_0), .val (.int p0c0_1), .val (.int p0c0_2), .val (.int p0c0_3), .unset, .unset, .unset, .unset, .unset, .unset, .unset, .unset, .unset, .unset] [(.int p0c0_0)])) rfl (hb hby at_1) _ ?_
    show Steps p.tables e below (s₁.setTop (mkF m 3 #[.val (.int p0c0_0), .val (.int p0c0_1), .val (.int p0c0_2), .val (.int p0c0_3), .unset, .unset, .unset, .unset, .unset, .unset, .unset, .unset, .unset, .unset] [(.int (2147483647 : Int32)), (.int p0c0_0)])) _
    refine XS.iand X0.here hx rfl (hb hby at_3) rfl ?_
    refine XS.bipush X0.here hx rfl (hb hby at_4) ?_
    refine XS.irem X0.here hx rfl (hb hby at_6) rfl (by decide) ?_
    refine XS.istore X0.here hx rfl (hb hby at_7) rfl (l' := #[.val (.int p0c0_0), .val (.int p0c0_1), .val (.int p0c0_2), .val (.int p0c0_3), .val (.int (own_v0c0_0 p0c0_0)), .unset, .unset, .unset, .unset, .unset, .unset, .unset, .unset, .unset]) rfl ?_
    rw [fx7]
    show Steps p.tables e below (s₁.setTop (mkF m 9 #[.val (.int p0c0_0), .val (.int p0c0_1), .val (.int p0c0_2), .val (.int p0c0_3), .val (.int (0 : Int32)), .unset, .unset, .unset, .unset, .unset, .unset, .unset, .unset, .unset] [])) _
    refine XS.iload X0.here hx rfl (hb hby at_9) rfl ?_
    refine XS.iloadN X0.here hx rfl (hb hby at_11) rfl ?_
    refine stk0c0_1 _ ?_
    show Steps p.tables e below (Tk0c0_1.setTop (mkF m 15 #[.val (.int p0c0_0), .val (.int p0c0_1), .val (.int p0c0_2), .val (.int p0c0_3), .val (.int (0 : Int32)), .unset, .unset, .unset, .unset, .unset, .unset, .unset, .unset, .unset] [(.ref bk0c0_1_0)])) _
    refine XS.astore Xk0c0_1.here hx rfl (hb hby at_15) rfl rfl (l' := #[.val (.int p0c0_0), .val (.int p0c0_1), .val (.int p0c0_2), .val (.int p0c0_3), .val (.int (0 : Int32)), .val (.ref bk0c0_1_0), .unset, .unset, .unset, .unset, .unset, .unset, .unset, .unset]) rfl ?_
    refine XS.iload Xk0c0_1.here hx rfl (hb hby at_17) rfl ?_
    refine XS.iloadN Xk0c0_1.here hx rfl (hb hby at_19) rfl ?_
    refine stk0c0_3 _ ?_
    show Steps p.tables e below (Tk0c0_3.setTop (mkF m 23 #[.val (.int p0c0_0), .val (.int p0c0_1), .val (.int p0c0_2), .val (.int p0c0_3), .val (.int (0 : Int32)), .val (.ref bk0c0_1_0), .unset, .unset, .unset, .unset, .unset, .unset, .unset, .unset] [(.ref bk0c0_3_0)])) _
    refine XS.astore Xk0c0_3.here hx rfl (hb hby at_23) rfl rfl (l' := #[.val (.int p0c0_0), .val (.int p0c0_1), .val (.int p0c0_2), .val (.int p0c0_3), .val (.int (0 : Int32)), .val (.ref bk0c0_1_0), .val (.ref bk0c0_3_0), .unset, .unset, .unset, .unset, .unset, .unset, .unset]) rfl ?_
    refine XS.iload Xk0c0_3.here hx rfl (hb hby at_25) rfl ?_
    refine XS.iloadN Xk0c0_3.here hx rfl (hb hby at_27) rfl ?_
    refine stk0c0_5 _ ?_
    show Steps p.tables e below (Tk0c0_5.setTop (mkF m 31 #[.val (.int p0c0_0), .val (.int p0c0_1), .val (.int p0c0_2), .val (.int p0c0_3), .val (.int (0 : Int32)), .val (.ref bk0c0_1_0), .val (.ref bk0c0_3_0), .unset, .unset, .unset, .unset, .unset, .unset, .unset] [(.ref bk0c0_5_0)])) _
    refine XS.astore Xk0c0_5.here hx rfl (hb hby at_31) rfl rfl (l' := #[.val (.int p0c0_0), .val (.int p0c0_1), .val (.int p0c0_2), .val (.int p0c0_3), .val (.int (0 : Int32)), .val (.ref bk0c0_1_0), .val (.ref bk0c0_3_0), .val (.ref bk0c0_5_0), .unset, .unset, .unset, .unset, .unset, .unset]) rfl ?_
    refine XS.iloadN Xk0c0_5.here hx rfl (hb hby at_33) rfl ?_
    refine XS.sipush Xk0c0_5.here hx rfl (hb hby at_34) ?_
    refine XS.iand Xk0c0_5.here hx rfl (hb hby at_37) rfl ?_
    refine XS.i2dS Xk0c0_5.here hx rfl (hb hby at_38) rfl rfl ?_
    refine XS.dstore Xk0c0_5.here hx rfl (hb hby at_39) rfl (l' := #[.val (.int p0c0_0), .val (.int p0c0_1), .val (.int p0c0_2), .val (.int p0c0_3), .val (.int (0 : Int32)), .val (.ref bk0c0_1_0), .val (.ref bk0c0_3_0), .val (.ref bk0c0_5_0), .val (.double (own_v0c0_1 p0c0_3)), .second, .unset, .unset, .unset, .unset]) rfl ?_
    refine stn0c0_7 _ ?_
    show Steps p.tables e below (Tn0c0_7.setTop (mkF m 44 #[.val (.int p0c0_0), .val (.int p0c0_1), .val (.int p0c0_2), .val (.int p0c0_3), .val (.int (0 : Int32)), .val (.ref bk0c0_1_0), .val (.ref bk0c0_3_0), .val (.ref bk0c0_5_0), .val (.double (own_v0c0_1 p0c0_3)), .second, .unset, .unset, .unset, .unset] [(.ref bn0c0_7)])) _
    refine XS.dup Xn0c0_7.here hx rfl (hb hby at_44) rfl rfl ?_
    refine XS.aload Xn0c0_7.here hx rfl (hb hby at_45) rfl rfl ?_
    refine XS.aload Xn0c0_7.here hx rfl (hb hby at_47) rfl rfl ?_
    refine XS.aload Xn0c0_7.here hx rfl (hb hby at_49) rfl rfl ?_
    refine XS.dload Xn0c0_7.here hx rfl (hb hby at_51) rfl ?_
    refine stk0c0_9.trans ?_
    show Steps p.tables e below (Tk0c0_9.setTop (mkF m 56 #[.val (.int p0c0_0), .val (.int p0c0_1), .val (.int p0c0_2), .val (.int p0c0_3), .val (.int (0 : Int32)), .val (.ref bk0c0_1_0), .val (.ref bk0c0_3_0), .val (.ref bk0c0_5_0), .val (.double (own_v0c0_1 p0c0_3)), .second, .unset, .unset, .unset, .unset] [(.ref bn0c0_7)])) _
    refine XS.astore Xk0c0_9.here hx rfl (hb hby at_56) rfl rfl (l' := #[.val (.int p0c0_0), .val (.int p0c0_1), .val (.int p0c0_2), .val (.int p0c0_3), .val (.int (0 : Int32)), .val (.ref bk0c0_1_0), .val (.ref bk0c0_3_0), .val (.ref bk0c0_5_0), .val (.double (own_v0c0_1 p0c0_3)), .second, .val (.ref bn0c0_7), .unset, .unset, .unset]) rfl ?_
    refine XS.aload Xk0c0_9.here hx rfl (hb hby at_58) rfl rfl ?_
    refine stk0c0_11.trans ?_
    show Steps p.tables e below (Tk0c0_11.setTop (mkF m 63 #[.val (.int p0c0_0), .val (.int p0c0_1), .val (.int p0c0_2), .val (.int p0c0_3), .val (.int (0 : Int32)), .val (.ref bk0c0_1_0), .val (.ref bk0c0_3_0), .val (.ref bk0c0_5_0), .val (.double (own_v0c0_1 p0c0_3)), .second, .val (.ref bn0c0_7), .unset, .unset, .unset] [(.int (0 : Int32))])) _
    refine XS.istore Xk0c0_11.here hx rfl (hb hby at_63) rfl (l' := #[.val (.int p0c0_0), .val (.int p0c0_1), .val (.int p0c0_2), .val (.int p0c0_3), .val (.int (0 : Int32)), .val (.ref bk0c0_1_0), .val (.ref bk0c0_3_0), .val (.ref bk0c0_5_0), .val (.double (own_v0c0_1 p0c0_3)), .second, .val (.ref bn0c0_7), .val (.int (0 : Int32)), .unset, .unset]) rfl ?_
    refine XS.iloadN Xk0c0_11.here hx rfl (hb hby at_65) rfl ?_
    refine XS.iconst Xk0c0_11.here hx rfl (hb hby at_66) ?_
    refine XS.iload Xk0c0_11.here hx rfl (hb hby at_67) rfl ?_
    refine XT.ishl Xk0c0_11.here hx rfl (hb hby at_69) rfl ?_
    refine XS.iconst Xk0c0_11.here hx rfl (hb hby at_70) ?_
    refine XS.isub Xk0c0_11.here hx rfl (hb hby at_71) rfl ?_
    refine XS.iand Xk0c0_11.here hx rfl (hb hby at_72) rfl ?_
    refine XS.istore Xk0c0_11.here hx rfl (hb hby at_73) rfl (l' := #[.val (.int p0c0_0), .val (.int p0c0_1), .val (.int p0c0_2), .val (.int p0c0_3), .val (.int (0 : Int32)), .val (.ref bk0c0_1_0), .val (.ref bk0c0_3_0), .val (.ref bk0c0_5_0), .val (.double (own_v0c0_1 p0c0_3)), .second, .val (.ref bn0c0_7), .val (.int (0 : Int32)), .val (.int (own_v0c0_2 p0c0_1)), .unset]) rfl ?_
    refine XS.iload Xk0c0_11.here hx rfl (hb hby at_75) rfl ?_
    refine XS.iconst Xk0c0_11.here hx rfl (hb hby at_77) ?_
    refine XS.iand Xk0c0_11.here hx rfl (hb hby at_78) rfl ?_
    refine XS.iload Xk0c0_11.here hx rfl (hb hby at_79) rfl ?_
    refine XS.iconst Xk0c0_11.here hx rfl (hb hby at_81) ?_
    refine XT.ishr Xk0c0_11.here hx rfl (hb hby at_82) rfl ?_
    refine XS.iconst Xk0c0_11.here hx rfl (hb hby at_83) ?_
    refine XS.iand Xk0c0_11.here hx rfl (hb hby at_84) rfl ?_
    refine XS.iadd Xk0c0_11.here hx rfl (hb hby at_85) rfl ?_
    refine XS.iload Xk0c0_11.here hx rfl (hb hby at_86) rfl ?_
    refine XS.iconst Xk0c0_11.here hx rfl (hb hby at_88) ?_
    refine XT.ishr Xk0c0_11.here hx rfl (hb hby at_89) rfl ?_
    refine XS.iconst Xk0c0_11.here hx rfl (hb hby at_90) ?_
    refine XS.iand Xk0c0_11.here hx rfl (hb hby at_91) rfl ?_
    refine XS.iadd Xk0c0_11.here hx rfl (hb hby at_92) rfl ?_
    refine XS.iload Xk0c0_11.here hx rfl (hb hby at_93) rfl ?_
    refine XS.iconst Xk0c0_11.here hx rfl (hb hby at_95) ?_
    refine XT.ishr Xk0c0_11.here hx rfl (hb hby at_96) rfl ?_
    refine XS.iconst Xk0c0_11.here hx rfl (hb hby at_97) ?_
    refine XS.iand Xk0c0_11.here hx rfl (hb hby at_98) rfl ?_
    refine XS.iadd Xk0c0_11.here hx rfl (hb hby at_99) rfl ?_
    refine XS.iload Xk0c0_11.here hx rfl (hb hby at_100) rfl ?_
    refine XS.iconst Xk0c0_11.here hx rfl (hb hby at_102) ?_
    refine XT.ishr Xk0c0_11.here hx rfl (hb hby at_103) rfl ?_
    refine XS.iconst Xk0c0_11.here hx rfl (hb hby at_104) ?_
    refine XS.iand Xk0c0_11.here hx rfl (hb hby at_105) rfl ?_
    refine XS.iadd Xk0c0_11.here hx rfl (hb hby at_106) rfl ?_
    refine XS.iload Xk0c0_11.here hx rfl (hb hby at_107) rfl ?_
    refine XS.iconst Xk0c0_11.here hx rfl (hb hby at_109) ?_
    refine XT.ishr Xk0c0_11.here hx rfl (hb hby at_110) rfl ?_
    refine XS.iconst Xk0c0_11.here hx rfl (hb hby at_111) ?_
    refine XS.iand Xk0c0_11.here hx rfl (hb hby at_112) rfl ?_
    refine XS.iadd Xk0c0_11.here hx rfl (hb hby at_113) rfl ?_
    refine XS.istore Xk0c0_11.here hx rfl (hb hby at_114) rfl (l' := #[.val (.int p0c0_0), .val (.int p0c0_1), .val (.int p0c0_2), .val (.int p0c0_3), .val (.int (0 : Int32)), .val (.ref bk0c0_1_0), .val (.ref bk0c0_3_0), .val (.ref bk0c0_5_0), .val (.double (own_v0c0_1 p0c0_3)), .second, .val (.ref bn0c0_7), .val (.int (0 : Int32)), .val (.int (own_v0c0_2 p0c0_1)), .val (.int (own_v0c0_3 p0c0_1))]) rfl ?_
    refine XS.iload Xk0c0_11.here hx rfl (hb hby at_116) rfl ?_
    refine XS.iload Xk0c0_11.here hx rfl (hb hby at_118) rfl ?_
    refine XS.icmpNo Xk0c0_11.here hx rfl (hb hby at_120) rfl (XT.ii_ne_f hc120) ?_
    refine XS.iconst Xk0c0_11.here hx rfl (hb hby at_123) ?_
    refine XS.goto Xk0c0_11.here hx rfl (pc0 := 124) (pc' := 128) rfl (hb hby at_124) (by decide) (by decide) ?_
    show Steps p.tables e below (Tk0c0_11.setTop (mkF m 128 #[.val (.int p0c0_0), .val (.int p0c0_1), .val (.int p0c0_2), .val (.int p0c0_3), .val (.int (0 : Int32)), .val (.ref bk0c0_1_0), .val (.ref bk0c0_3_0), .val (.ref bk0c0_5_0), .val (.double (own_v0c0_1 p0c0_3)), .second, .val (.ref bn0c0_7), .val (.int (0 : Int32)), .val (.int (own_v0c0_2 p0c0_1)), .val (.int (own_v0c0_3 p0c0_1))] [(.int (1 : Int32))])) _
    exact retN Xk0c0_11 hx (t := .boolean) Bd.returns (by simp) (hb hby at_128) hr
  · show own_Q0c0 Z p0c0_0 p0c0_1 p0c0_2 p0c0_3 h0 n0 _ Tk0c0_11.heap _
    rw [ek0c0_11]
    exact ⟨rfl, Nk0c0_11⟩
def own_v0c1_0 (p0c1_0 : Int32) : Int32 := ((p0c1_0 &&& (2147483647 : Int32)) - ((p0c1_0 &&& (2147483647 : Int32)) / (7 : Int32)) * (7 : Int32))
def own_v0c1_1 (p0c1_3 : Int32) : UInt64 := (FP.i2d (p0c1_3 &&& (255 : Int32)))
def own_v0c1_2 (p0c1_1 : Int32) : Int32 := (own_rrc1_1 (nar .boolean (own_vruns1_0 p0c1_1)))
def own_v0c1_3 (p0c1_1 : Int32) : Int32 := (p0c1_1 &&& (((1 : Int32) <<< ((1 : Int32) &&& 31)) - (1 : Int32)))
def own_v0c1_4 (p0c1_1 : Int32) : Int32 := (((((((own_v0c1_3 p0c1_1) &&& (1 : Int32)) + (((own_v0c1_3 p0c1_1) >>> ((1 : Int32) &&& 31)) &&& (1 : Int32))) + (((own_v0c1_3 p0c1_1) >>> ((2 : Int32) &&& 31)) &&& (1 : Int32))) + (((own_v0c1_3 p0c1_1) >>> ((3 : Int32) &&& 31)) &&& (1 : Int32))) + (((own_v0c1_3 p0c1_1) >>> ((4 : Int32) &&& 31)) &&& (1 : Int32))) + (((own_v0c1_3 p0c1_1) >>> ((5 : Int32) &&& 31)) &&& (1 : Int32)))
theorem own_ef0c1 (m : MethodId) (p0c1_0 : Int32) (p0c1_1 : Int32) (p0c1_2 : Int32) (p0c1_3 : Int32) : entryFrame m #[(.int p0c1_0), (.int p0c1_1), (.int p0c1_2), (.int p0c1_3)] maxLocals = mkF m 0 #[.val (.int p0c1_0), .val (.int p0c1_1), .val (.int p0c1_2), .val (.int p0c1_3), .unset, .unset, .unset, .unset, .unset, .unset, .unset, .unset, .unset, .unset] [] := by first | (simp [entryFrame, mkF, argsToLocals, Value.category, maxLocals]; done) | rfl
def own_Q0c1 (Z : State) (p0c1_0 : Int32) (p0c1_1 : Int32) (p0c1_2 : Int32) (p0c1_3 : Int32) (h0 : Heap) (n0 : Nat) (v : Option Value) (h : Heap) (L : List Loc) : Prop := v = some (.int (1 : Int32)) ∧ Fr n0 L
set_option maxRecDepth 65536 in
set_option maxHeartbeats 40000000 in
theorem own_rm0c1 (l : Launch) (Z : State) (a0 : Array Value) (hw : ∀ d ∈ tables_1, d.before a0 Z = true) (ws : List Jvm.Cond) (p0c1_0 : Int32) (p0c1_1 : Int32) (p0c1_2 : Int32) (p0c1_3 : Int32) (h0 : Heap) (n0 : Nat) (Z0 : n0 ≤ h0.size) (fx7 : (own_v0c1_0 p0c1_0) = (1 : Int32)) (hc120 : (own_v0c1_2 p0c1_1) = (own_v0c1_4 p0c1_1)) :
    MetFree l x (head1 (Jvm.Cond.code x code maxLocals ret :: ws) room_1) (fun a U => a = #[(.int p0c1_0), (.int p0c1_1), (.int p0c1_2), (.int p0c1_3)] ∧ Z.Warmed39 U.vm ∧ U.heap = h0) (fun _ _ _ _ _ => True) (fun _ U o U' => ∃ v L, o = .returned v ∧ own_Q0c1 Z p0c1_0 p0c1_1 p0c1_2 p0c1_3 h0 n0 v U'.heap L ∧ FrameEnd U o U' L room_1.cells room_1.slots) := by
  refine MetFree.of_bodySF (plainFor_of_name own_pn0) hisR ?_
  intro p e s m args below meth c s₁ Bd hml0 hP hK
  obtain ⟨rfl, hZ, hh⟩ := hP
  have hx := Bd.exec
  have hby := Bd.bytes
  have hml : c.maxLocals = 14 := hml0
  have hown : s.vm.findClass "com/example/arborway/arborway/sim/WalkRunningCountPinLaw" = some m.cls := findClass_of_methodNamed Bd.named
  have hnm := (name_of_methodNamed Bd.named Bd.method).1
  have X0 : Stand p l e room_1 s m #[(.int p0c1_0), (.int p0c1_1), (.int p0c1_2), (.int p0c1_3)] below meth c s₁ [] 0 0 := Stand.of_body Bd
  have e0 : s₁.heap = h0 := by rw [← hh, Bd.state]; rfl
  have N0 := Fr.nil n0
  have Zr : h0.size ≤ h0.size := Nat.le_refl _
  have pre0 : ∀ t, Steps p.tables e below (s₁.setTop (mkF m 0 #[.val (.int p0c1_0), .val (.int p0c1_1), .val (.int p0c1_2), .val (.int p0c1_3), .unset, .unset, .unset, .unset, .unset, .unset, .unset, .unset, .unset, .unset] [])) t → Steps p.tables e below (s₁.setTop (entryFrame m #[(.int p0c1_0), (.int p0c1_1), (.int p0c1_2), (.int p0c1_3)] maxLocals)) t := fun t k => castTop (own_ef0c1 m p0c1_0 p0c1_1 p0c1_2 p0c1_3) k
  obtain ⟨_, _, ⟨Tk0c1_1, Lk0c1_1, kk0c1_1, nk0c1_1⟩, -, Xk0c1_1, ⟨Lck0c1_1, hQk0c1_1, lk0c1_1, yk0c1_1, zk0c1_1⟩, stk0c1_1⟩ := Jvm.LawKit.callS X0 hx (y := (⟨"com/example/arborway/arborway/sim/WalkRunningCountPinLaw", "runs", "(II)[Z"⟩ : MethodName)) hown (mvT hZ (own_W hw 1 rfl)) (mvT hZ (own_W hw 2 rfl)) (mvT hZ (own_W hw 3 rfl)) (mvT hZ (own_W hw 4 rfl)) (by decide) (backOf (W := 0) (own_rmruns1 l Z a0 hw [] p0c1_1 h0 n0 Z0) hZ (own_W hw 4 rfl) (own_W hw 3 rfl) (by decide) (by decide)) (g := (mkF m 12 #[.val (.int p0c1_0), .val (.int p0c1_1), .val (.int p0c1_2), .val (.int p0c1_3), .val (.int (1 : Int32)), .unset, .unset, .unset, .unset, .unset, .unset, .unset, .unset, .unset] [(.int p0c1_1), (.int (1 : Int32))])) rfl (by rw [hml]; rfl) (argsL := [(.int (1 : Int32)), (.int p0c1_1)]) (rest := []) (lenOf own_pd4 rfl) rfl (by show 2 * 0 + _ ≤ _; exact Nat.le_of_eq rfl) (hb hby at_12) (fun _ _ => ⟨rfl, e0, (by decide : 0 + 1 ≤ _), (by decide : 0 + 1 ≤ _)⟩)
  dsimp only [Pt.U, Pt.locs, Pt.cells, Pt.slots] at Xk0c1_1 lk0c1_1 yk0c1_1 zk0c1_1 stk0c1_1 hQk0c1_1
  replace lk0c1_1 := lk0c1_1.symm; replace yk0c1_1 := yk0c1_1.symm; replace zk0c1_1 := zk0c1_1.symm; subst lk0c1_1 yk0c1_1 zk0c1_1
  obtain ⟨bk0c1_1_0, kk0c1_1_1, rfl, Nk0c1_1q, Kk0c1_1, lebk0c1_1_0, Qk0c1_1_0⟩ := hQk0c1_1
  have g_bk0c1_1_0 : n0 ≤ bk0c1_1_0 := Nat.le_trans Z0 lebk0c1_1_0
  have sz_bk0c1_1_0 : h0.size ≤ bk0c1_1_0 := Nat.le_trans Zr lebk0c1_1_0
  have sz0c1_2 : h0.size ≤ Tk0c1_1.heap.size := Nat.le_trans Zr Kk0c1_1.1
  have Nk0c1_1 := Fr.app N0 Nk0c1_1q
  obtain ⟨_, _, ⟨Tk0c1_3, Lk0c1_3, kk0c1_3, nk0c1_3⟩, -, Xk0c1_3, ⟨Lck0c1_3, hQk0c1_3, lk0c1_3, yk0c1_3, zk0c1_3⟩, stk0c1_3⟩ := Jvm.LawKit.callS Xk0c1_1 hx (y := (⟨"com/example/arborway/arborway/sim/WalkRunningCountPinLaw", "depths", "(II)[I"⟩ : MethodName)) hown (mvT hZ (own_W hw 9 rfl)) (mvT hZ (own_W hw 10 rfl)) (mvT hZ (own_W hw 3 rfl)) (mvT hZ (own_W hw 11 rfl)) (by decide) (backOf (W := 0) (own_rmdepths1 l Z a0 hw [] p0c1_2 Tk0c1_1.heap n0 (Nat.le_trans Z0 sz0c1_2)) hZ (own_W hw 11 rfl) (own_W hw 3 rfl) (by decide) (by decide)) (g := (mkF m 20 #[.val (.int p0c1_0), .val (.int p0c1_1), .val (.int p0c1_2), .val (.int p0c1_3), .val (.int (1 : Int32)), .val (.ref bk0c1_1_0), .unset, .unset, .unset, .unset, .unset, .unset, .unset, .unset] [(.int p0c1_2), (.int (1 : Int32))])) rfl (by rw [hml]; rfl) (argsL := [(.int (1 : Int32)), (.int p0c1_2)]) (rest := []) (lenOf own_pd5 rfl) rfl (by show 2 * 0 + _ ≤ _; exact Nat.le_of_eq rfl) (hb hby at_20) (fun _ _ => ⟨rfl, rfl, (by decide : 1 + 1 ≤ _), (by decide : 1 + 1 ≤ _)⟩)
  dsimp only [Pt.U, Pt.locs, Pt.cells, Pt.slots] at Xk0c1_3 lk0c1_3 yk0c1_3 zk0c1_3 stk0c1_3 hQk0c1_3
  replace lk0c1_3 := lk0c1_3.symm; replace yk0c1_3 := yk0c1_3.symm; replace zk0c1_3 := zk0c1_3.symm; subst lk0c1_3 yk0c1_3 zk0c1_3
  obtain ⟨bk0c1_3_0, kk0c1_3_1, rfl, Nk0c1_3q, Kk0c1_3, lebk0c1_3_0, Qk0c1_3_0⟩ := hQk0c1_3
  have g_bk0c1_3_0 : n0 ≤ bk0c1_3_0 := Nat.le_trans (Nat.le_trans Z0 sz0c1_2) lebk0c1_3_0
  have sz_bk0c1_3_0 : h0.size ≤ bk0c1_3_0 := Nat.le_trans sz0c1_2 lebk0c1_3_0
  have sz0c1_4 : h0.size ≤ Tk0c1_3.heap.size := Nat.le_trans sz0c1_2 Kk0c1_3.1
  have Nk0c1_3 := Fr.app Nk0c1_1 Nk0c1_3q
  obtain ⟨_, _, ⟨Tk0c1_5, Lk0c1_5, kk0c1_5, nk0c1_5⟩, -, Xk0c1_5, ⟨Lck0c1_5, hQk0c1_5, lk0c1_5, yk0c1_5, zk0c1_5⟩, stk0c1_5⟩ := Jvm.LawKit.callS Xk0c1_3 hx (y := (⟨"com/example/arborway/arborway/sim/WalkRunningCountPinLaw", "delays", "(II)[D"⟩ : MethodName)) hown (mvT hZ (own_W hw 13 rfl)) (mvT hZ (own_W hw 14 rfl)) (mvT hZ (own_W hw 3 rfl)) (mvT hZ (own_W hw 15 rfl)) (by decide) (backOf (W := 0) (own_rmdelays1 l Z a0 hw [] p0c1_2 Tk0c1_3.heap n0 (Nat.le_trans Z0 sz0c1_4)) hZ (own_W hw 15 rfl) (own_W hw 3 rfl) (by decide) (by decide)) (g := (mkF m 28 #[.val (.int p0c1_0), .val (.int p0c1_1), .val (.int p0c1_2), .val (.int p0c1_3), .val (.int (1 : Int32)), .val (.ref bk0c1_1_0), .val (.ref bk0c1_3_0), .unset, .unset, .unset, .unset, .unset, .unset, .unset] [(.int p0c1_2), (.int (1 : Int32))])) rfl (by rw [hml]; rfl) (argsL := [(.int (1 : Int32)), (.int p0c1_2)]) (rest := []) (lenOf own_pd6 rfl) rfl (by show 2 * 0 + _ ≤ _; exact Nat.le_of_eq rfl) (hb hby at_28) (fun _ _ => ⟨rfl, rfl, (by decide : 2 + 1 ≤ _), (by decide : 2 + 1 ≤ _)⟩)
  dsimp only [Pt.U, Pt.locs, Pt.cells, Pt.slots] at Xk0c1_5 lk0c1_5 yk0c1_5 zk0c1_5 stk0c1_5 hQk0c1_5
  replace lk0c1_5 := lk0c1_5.symm; replace yk0c1_5 := yk0c1_5.symm; replace zk0c1_5 := zk0c1_5.symm; subst lk0c1_5 yk0c1_5 zk0c1_5
  obtain ⟨bk0c1_5_0, kk0c1_5_1, rfl, Nk0c1_5q, Kk0c1_5, lebk0c1_5_0, Qk0c1_5_0⟩ := hQk0c1_5
  have g_bk0c1_5_0 : n0 ≤ bk0c1_5_0 := Nat.le_trans (Nat.le_trans Z0 sz0c1_4) lebk0c1_5_0
  have sz_bk0c1_5_0 : h0.size ≤ bk0c1_5_0 := Nat.le_trans sz0c1_4 lebk0c1_5_0
  have sz0c1_6 : h0.size ≤ Tk0c1_5.heap.size := Nat.le_trans sz0c1_4 Kk0c1_5.1
  have Nk0c1_5 := Fr.app Nk0c1_3 Nk0c1_5q
  obtain ⟨Tn0c1_7, hn0c1_7, Xn0c1_7, en0c1_7, En0c1_7, An0c1_7, Dn0c1_7, -, stn0c1_7⟩ := newO Xk0c1_5 hx hZ hown (own_W hw 17 rfl) (own_W hw 18 rfl) (own_W hw 19 rfl) rfl (g := (mkF m 41 #[.val (.int p0c1_0), .val (.int p0c1_1), .val (.int p0c1_2), .val (.int p0c1_3), .val (.int (1 : Int32)), .val (.ref bk0c1_1_0), .val (.ref bk0c1_3_0), .val (.ref bk0c1_5_0), .val (.double (own_v0c1_1 p0c1_3)), .second, .unset, .unset, .unset, .unset] [])) rfl (hb hby at_41) (by decide) (by decide)
  obtain ⟨bn0c1_7, gn0c1_7⟩ : ∃ z, z = Tk0c1_5.heap.size := ⟨_, rfl⟩
  rw [← gn0c1_7] at An0c1_7 Dn0c1_7 stn0c1_7
  have g_bn0c1_7 : n0 ≤ bn0c1_7 := Nat.le_trans (Nat.le_trans Z0 sz0c1_6) (Nat.le_of_eq gn0c1_7.symm)
  have sz_bn0c1_7 : h0.size ≤ bn0c1_7 := Nat.le_trans sz0c1_6 (Nat.le_of_eq gn0c1_7.symm)
  have sz0c1_8 : h0.size ≤ hn0c1_7.size := Nat.le_trans sz0c1_6 En0c1_7.1
  have F_depth_bn0c1_7 : Fld Z hn0c1_7 bn0c1_7 "com/example/arborway/arborway/sim/RunTally$Walk" "depth" "[I" .null := Dn0c1_7 (Or.inr (own_W hw 32 rfl)) (ty := (.array .int)) (by decide)
  have F_rootDelayMs_bn0c1_7 : Fld Z hn0c1_7 bn0c1_7 "com/example/arborway/arborway/sim/RunTally$Walk" "rootDelayMs" "[D" .null := Dn0c1_7 (Or.inr (own_W hw 34 rfl)) (ty := (.array .double)) (by decide)
  have F_running_bn0c1_7 : Fld Z hn0c1_7 bn0c1_7 "com/example/arborway/arborway/sim/RunTally$Walk" "running" "[Z" .null := Dn0c1_7 (Or.inr (own_W hw 36 rfl)) (ty := (.array .boolean)) (by decide)
  have F_costMs_bn0c1_7 : Fld Z hn0c1_7 bn0c1_7 "com/example/arborway/arborway/sim/RunTally$Walk" "costMs" "D" (.double (0 : UInt64)) := Dn0c1_7 (Or.inr (own_W hw 38 rfl)) (ty := .double) (by decide)
  obtain ⟨_, _, ⟨Tk0c1_9, Lk0c1_9, kk0c1_9, nk0c1_9⟩, -, Xk0c1_9, ⟨Lck0c1_9, hQk0c1_9, lk0c1_9, yk0c1_9, zk0c1_9⟩, stk0c1_9⟩ := Xn0c1_7.specialBack hx (y := (⟨"com/example/arborway/arborway/sim/RunTally$Walk", "<init>", "([I[D[ZD)V"⟩ : MethodName)) rfl hown (mvT hZ (own_W hw 20 rfl)) (mvT hZ (own_W hw 21 rfl)) (mvT hZ (own_W hw 22 rfl)) (by decide) (backOf (W := 1) (own_rm5 l Z a0 hw [] bn0c1_7 bk0c1_3_0 bk0c1_5_0 bk0c1_1_0 (own_v0c1_1 p0c1_3) .null .null .null (.double (0 : UInt64)) hn0c1_7 n0 (Nat.le_trans Z0 sz0c1_8) An0c1_7 F_depth_bn0c1_7 g_bn0c1_7 F_rootDelayMs_bn0c1_7 F_running_bn0c1_7 F_costMs_bn0c1_7) hZ (own_W hw 22 rfl) (own_W hw 19 rfl) (by decide) (by decide)) (g := (mkF m 53 #[.val (.int p0c1_0), .val (.int p0c1_1), .val (.int p0c1_2), .val (.int p0c1_3), .val (.int (1 : Int32)), .val (.ref bk0c1_1_0), .val (.ref bk0c1_3_0), .val (.ref bk0c1_5_0), .val (.double (own_v0c1_1 p0c1_3)), .second, .unset, .unset, .unset, .unset] [(.double (own_v0c1_1 p0c1_3)), (.ref bk0c1_1_0), (.ref bk0c1_5_0), (.ref bk0c1_3_0), (.ref bn0c1_7), (.ref bn0c1_7)])) rfl (by rw [hml]; rfl) (Steps.refl _) (a := bn0c1_7) (argsL := [(.ref bk0c1_3_0), (.ref bk0c1_5_0), (.ref bk0c1_1_0), (.double (own_v0c1_1 p0c1_3))]) (rest := [(.ref bn0c1_7)]) (lenOf own_pd7 rfl) rfl (by show 2 * 0 + _ ≤ _; exact Nat.le_of_eq rfl) (hb hby at_53) (fun _ _ => ⟨rfl, en0c1_7, (by decide : 4 + 0 ≤ _), (by decide : 7 + 0 ≤ _)⟩)
  dsimp only [Pt.U, Pt.locs, Pt.cells, Pt.slots] at Xk0c1_9 lk0c1_9 yk0c1_9 zk0c1_9 stk0c1_9 hQk0c1_9
  replace lk0c1_9 := lk0c1_9.symm; replace yk0c1_9 := yk0c1_9.symm; replace zk0c1_9 := zk0c1_9.symm; subst lk0c1_9 yk0c1_9 zk0c1_9
  obtain ⟨rfl, Nk0c1_9q, Kk0c1_9, Qk0c1_9_0, Qk0c1_9_1, Qk0c1_9_2, Qk0c1_9_3, Qk0c1_9_4⟩ := hQk0c1_9
  have sz0c1_10 : h0.size ≤ Tk0c1_9.heap.size := Nat.le_trans sz0c1_8 Kk0c1_9.1
  have Nk0c1_9 := Fr.app Nk0c1_5 Nk0c1_9q
  have ne0c1_12 : bk0c1_1_0 ≠ bn0c1_7 := (Nat.ne_of_lt (Nat.lt_of_lt_of_le ((Qk0c1_1_0.keep Kk0c1_3 nin0).keep Kk0c1_5 nin0).lt (Nat.le_of_eq gn0c1_7.symm)))
  have F0c1_13 := ((((Qk0c1_1_0.keep Kk0c1_3 nin0).keep Kk0c1_5 nin0).ext En0c1_7).keep Kk0c1_9 (ninS ne0c1_12 nin0))
  obtain ⟨cqk0c1_11, kqk0c1_11, qk0c1_11a, qk0c1_11b, qk0c1_11c⟩ := isOf hZ rfl Qk0c1_9_0
  obtain ⟨_, _, ⟨Tk0c1_11, Lk0c1_11, kk0c1_11, nk0c1_11⟩, -, Xk0c1_11, ⟨Lck0c1_11, hQk0c1_11, lk0c1_11, yk0c1_11, zk0c1_11⟩, stk0c1_11⟩ := Xk0c1_9.virtualBack hx (y := (⟨"com/example/arborway/arborway/sim/RunTally$Walk", "runningCount", "()I"⟩ : MethodName)) (z := (⟨"com/example/arborway/arborway/sim/RunTally$Walk", "runningCount", "()I"⟩ : MethodName)) hown (mvT hZ (own_W hw 39 rfl)) (mvT hZ (own_W hw 40 rfl)) (notFace_of_selects (args := #[]) (mvT hZ (own_W hw 42 rfl))) (mvT hZ (own_W hw 42 rfl)) (mvT hZ (own_W hw 41 rfl)) (by decide) (backOf (W := 0) (own_rmrc1 l Z a0 hw [] bn0c1_7 bk0c1_1_0 kk0c1_1_1 (nar .boolean (own_vruns1_0 p0c1_1)) Tk0c1_9.heap n0 (Nat.le_trans Z0 sz0c1_10) Qk0c1_9_3 F0c1_13) hZ (own_W hw 43 rfl) (own_W hw 19 rfl) (by decide) (by decide)) qk0c1_11a qk0c1_11c (g := (mkF m 60 #[.val (.int p0c1_0), .val (.int p0c1_1), .val (.int p0c1_2), .val (.int p0c1_3), .val (.int (1 : Int32)), .val (.ref bk0c1_1_0), .val (.ref bk0c1_3_0), .val (.ref bk0c1_5_0), .val (.double (own_v0c1_1 p0c1_3)), .second, .val (.ref bn0c1_7), .unset, .unset, .unset] [(.ref bn0c1_7)])) rfl (by rw [hml]; rfl) (Steps.refl _) (argsL := []) (rest := []) (lenOf own_pd8 rfl) rfl (by show 2 * 0 + _ ≤ _; exact Nat.le_of_eq rfl) (hb hby at_60) (fun _ _ => ⟨rfl, rfl, (by decide : 4 + 0 ≤ _), (by decide : 7 + 0 ≤ _)⟩)
  dsimp only [Pt.U, Pt.locs, Pt.cells, Pt.slots] at Xk0c1_11 lk0c1_11 yk0c1_11 zk0c1_11 stk0c1_11 hQk0c1_11
  replace lk0c1_11 := lk0c1_11.symm; replace yk0c1_11 := yk0c1_11.symm; replace zk0c1_11 := zk0c1_11.symm; subst lk0c1_11 yk0c1_11 zk0c1_11
  obtain ⟨rfl, Nk0c1_11q, ek0c1_11⟩ := hQk0c1_11
  have Nk0c1_11 := Fr.app Nk0c1_9 Nk0c1_11q
  obtain ⟨fs, hr, hrun, hended, hW, hsame⟩ := Xk0c1_11.leave (v := some (.int (1 : Int32))) (fun h => by rw [Bd.returns] at h; cases h)
  refine ⟨_, _, pre0 _ (?_), hrun, hended, _, _, rfl, ?_, ⟨_, rfl⟩, hW, hsame.mono (by decide) (by decide)⟩
  · show Steps p.tables e below (s₁.setTop (mkF m 0 #[.val (.int p0c1_0), .val (.int p0c1_1), .val (.int p0c1_2), .val (.int p0c1_3), .unset, .unset, .unset, .unset, .unset, .unset, .unset, .unset, .unset, .unset] [])) _
    refine XS.iloadN X0.here hx rfl (hb hby at_0) rfl ?_
    refine X0.ldcInt hx hown (mvT hZ (own_W hw 0 rfl)) (g := (mkF m 1 #[.val (.int p0c1_0), .val (.int p0c1_1), .val (.int p0c1_2), .val (.int p0c1_3), .unset, .unset, .unset, .unset, .unset, .unset, .unset, .unset, .unset, .unset] [(.int p0c1_0)])) rfl (hb hby at_1) _ ?_
    show Steps p.tables e below (s₁.setTop (mkF m 3 #[.val (.int p0c1_0), .val (.int p0c1_1), .val (.int p0c1_2), .val (.int p0c1_3), .unset, .unset, .unset, .unset, .unset, .unset, .unset, .unset, .unset, .unset] [(.int (2147483647 : Int32)), (.int p0c1_0)])) _
    refine XS.iand X0.here hx rfl (hb hby at_3) rfl ?_
    refine XS.bipush X0.here hx rfl (hb hby at_4) ?_
    refine XS.irem X0.here hx rfl (hb hby at_6) rfl (by decide) ?_
    refine XS.istore X0.here hx rfl (hb hby at_7) rfl (l' := #[.val (.int p0c1_0), .val (.int p0c1_1), .val (.int p0c1_2), .val (.int p0c1_3), .val (.int (own_v0c1_0 p0c1_0)), .unset, .unset, .unset, .unset, .unset, .unset, .unset, .unset, .unset]) rfl ?_
    rw [fx7]
    show Steps p.tables e below (s₁.setTop (mkF m 9 #[.val (.int p0c1_0), .val (.int p0c1_1), .val (.int p0c1_2), .val (.int p0c1_3), .val (.int (1 : Int32)), .unset, .unset, .unset, .unset, .unset, .unset, .unset, .unset, .unset] [])) _
    refine XS.iload X0.here hx rfl (hb hby at_9) rfl ?_
    refine XS.iloadN X0.here hx rfl (hb hby at_11) rfl ?_
    refine stk0c1_1 _ ?_
    show Steps p.tables e below (Tk0c1_1.setTop (mkF m 15 #[.val (.int p0c1_0), .val (.int p0c1_1), .val (.int p0c1_2), .val (.int p0c1_3), .val (.int (1 : Int32)), .unset, .unset, .unset, .unset, .unset, .unset, .unset, .unset, .unset] [(.ref bk0c1_1_0)])) _
    refine XS.astore Xk0c1_1.here hx rfl (hb hby at_15) rfl rfl (l' := #[.val (.int p0c1_0), .val (.int p0c1_1), .val (.int p0c1_2), .val (.int p0c1_3), .val (.int (1 : Int32)), .val (.ref bk0c1_1_0), .unset, .unset, .unset, .unset, .unset, .unset, .unset, .unset]) rfl ?_
    refine XS.iload Xk0c1_1.here hx rfl (hb hby at_17) rfl ?_
    refine XS.iloadN Xk0c1_1.here hx rfl (hb hby at_19) rfl ?_
    refine stk0c1_3 _ ?_
    show Steps p.tables e below (Tk0c1_3.setTop (mkF m 23 #[.val (.int p0c1_0), .val (.int p0c1_1), .val (.int p0c1_2), .val (.int p0c1_3), .val (.int (1 : Int32)), .val (.ref bk0c1_1_0), .unset, .unset, .unset, .unset, .unset, .unset, .unset, .unset] [(.ref bk0c1_3_0)])) _
    refine XS.astore Xk0c1_3.here hx rfl (hb hby at_23) rfl rfl (l' := #[.val (.int p0c1_0), .val (.int p0c1_1), .val (.int p0c1_2), .val (.int p0c1_3), .val (.int (1 : Int32)), .val (.ref bk0c1_1_0), .val (.ref bk0c1_3_0), .unset, .unset, .unset, .unset, .unset, .unset, .unset]) rfl ?_
    refine XS.iload Xk0c1_3.here hx rfl (hb hby at_25) rfl ?_
    refine XS.iloadN Xk0c1_3.here hx rfl (hb hby at_27) rfl ?_
    refine stk0c1_5 _ ?_
    show Steps p.tables e below (Tk0c1_5.setTop (mkF m 31 #[.val (.int p0c1_0), .val (.int p0c1_1), .val (.int p0c1_2), .val (.int p0c1_3), .val (.int (1 : Int32)), .val (.ref bk0c1_1_0), .val (.ref bk0c1_3_0), .unset, .unset, .unset, .unset, .unset, .unset, .unset] [(.ref bk0c1_5_0)])) _
    refine XS.astore Xk0c1_5.here hx rfl (hb hby at_31) rfl rfl (l' := #[.val (.int p0c1_0), .val (.int p0c1_1), .val (.int p0c1_2), .val (.int p0c1_3), .val (.int (1 : Int32)), .val (.ref bk0c1_1_0), .val (.ref bk0c1_3_0), .val (.ref bk0c1_5_0), .unset, .unset, .unset, .unset, .unset, .unset]) rfl ?_
    refine XS.iloadN Xk0c1_5.here hx rfl (hb hby at_33) rfl ?_
    refine XS.sipush Xk0c1_5.here hx rfl (hb hby at_34) ?_
    refine XS.iand Xk0c1_5.here hx rfl (hb hby at_37) rfl ?_
    refine XS.i2dS Xk0c1_5.here hx rfl (hb hby at_38) rfl rfl ?_
    refine XS.dstore Xk0c1_5.here hx rfl (hb hby at_39) rfl (l' := #[.val (.int p0c1_0), .val (.int p0c1_1), .val (.int p0c1_2), .val (.int p0c1_3), .val (.int (1 : Int32)), .val (.ref bk0c1_1_0), .val (.ref bk0c1_3_0), .val (.ref bk0c1_5_0), .val (.double (own_v0c1_1 p0c1_3)), .second, .unset, .unset, .unset, .unset]) rfl ?_
    refine stn0c1_7 _ ?_
    show Steps p.tables e below (Tn0c1_7.setTop (mkF m 44 #[.val (.int p0c1_0), .val (.int p0c1_1), .val (.int p0c1_2), .val (.int p0c1_3), .val (.int (1 : Int32)), .val (.ref bk0c1_1_0), .val (.ref bk0c1_3_0), .val (.ref bk0c1_5_0), .val (.double (own_v0c1_1 p0c1_3)), .second, .unset, .unset, .unset, .unset] [(.ref bn0c1_7)])) _
    refine XS.dup Xn0c1_7.here hx rfl (hb hby at_44) rfl rfl ?_
    refine XS.aload Xn0c1_7.here hx rfl (hb hby at_45) rfl rfl ?_
    refine XS.aload Xn0c1_7.here hx rfl (hb hby at_47) rfl rfl ?_
    refine XS.aload Xn0c1_7.here hx rfl (hb hby at_49) rfl rfl ?_
    refine XS.dload Xn0c1_7.here hx rfl (hb hby at_51) rfl ?_
    refine stk0c1_9.trans ?_
    show Steps p.tables e below (Tk0c1_9.setTop (mkF m 56 #[.val (.int p0c1_0), .val (.int p0c1_1), .val (.int p0c1_2), .val (.int p0c1_3), .val (.int (1 : Int32)), .val (.ref bk0c1_1_0), .val (.ref bk0c1_3_0), .val (.ref bk0c1_5_0), .val (.double (own_v0c1_1 p0c1_3)), .second, .unset, .unset, .unset, .unset] [(.ref bn0c1_7)])) _
    refine XS.astore Xk0c1_9.here hx rfl (hb hby at_56) rfl rfl (l' := #[.val (.int p0c1_0), .val (.int p0c1_1), .val (.int p0c1_2), .val (.int p0c1_3), .val (.int (1 : Int32)), .val (.ref bk0c1_1_0), .val (.ref bk0c1_3_0), .val (.ref bk0c1_5_0), .val (.double (own_v0c1_1 p0c1_3)), .second, .val (.ref bn0c1_7), .unset, .unset, .unset]) rfl ?_
    refine XS.aload Xk0c1_9.here hx rfl (hb hby at_58) rfl rfl ?_
    refine stk0c1_11.trans ?_
    show Steps p.tables e below (Tk0c1_11.setTop (mkF m 63 #[.val (.int p0c1_0), .val (.int p0c1_1), .val (.int p0c1_2), .val (.int p0c1_3), .val (.int (1 : Int32)), .val (.ref bk0c1_1_0), .val (.ref bk0c1_3_0), .val (.ref bk0c1_5_0), .val (.double (own_v0c1_1 p0c1_3)), .second, .val (.ref bn0c1_7), .unset, .unset, .unset] [(.int (own_rrc1_1 (nar .boolean (own_vruns1_0 p0c1_1))))])) _
    refine XS.istore Xk0c1_11.here hx rfl (hb hby at_63) rfl (l' := #[.val (.int p0c1_0), .val (.int p0c1_1), .val (.int p0c1_2), .val (.int p0c1_3), .val (.int (1 : Int32)), .val (.ref bk0c1_1_0), .val (.ref bk0c1_3_0), .val (.ref bk0c1_5_0), .val (.double (own_v0c1_1 p0c1_3)), .second, .val (.ref bn0c1_7), .val (.int (own_v0c1_2 p0c1_1)), .unset, .unset]) rfl ?_
    refine XS.iloadN Xk0c1_11.here hx rfl (hb hby at_65) rfl ?_
    refine XS.iconst Xk0c1_11.here hx rfl (hb hby at_66) ?_
    refine XS.iload Xk0c1_11.here hx rfl (hb hby at_67) rfl ?_
    refine XT.ishl Xk0c1_11.here hx rfl (hb hby at_69) rfl ?_
    refine XS.iconst Xk0c1_11.here hx rfl (hb hby at_70) ?_
    refine XS.isub Xk0c1_11.here hx rfl (hb hby at_71) rfl ?_
    refine XS.iand Xk0c1_11.here hx rfl (hb hby at_72) rfl ?_
    refine XS.istore Xk0c1_11.here hx rfl (hb hby at_73) rfl (l' := #[.val (.int p0c1_0), .val (.int p0c1_1), .val (.int p0c1_2), .val (.int p0c1_3), .val (.int (1 : Int32)), .val (.ref bk0c1_1_0), .val (.ref bk0c1_3_0), .val (.ref bk0c1_5_0), .val (.double (own_v0c1_1 p0c1_3)), .second, .val (.ref bn0c1_7), .val (.int (own_v0c1_2 p0c1_1)), .val (.int (own_v0c1_3 p0c1_1)), .unset]) rfl ?_
    refine XS.iload Xk0c1_11.here hx rfl (hb hby at_75) rfl ?_
    refine XS.iconst Xk0c1_11.here hx rfl (hb hby at_77) ?_
    refine XS.iand Xk0c1_11.here hx rfl (hb hby at_78) rfl ?_
    refine XS.iload Xk0c1_11.here hx rfl (hb hby at_79) rfl ?_
    refine XS.iconst Xk0c1_11.here hx rfl (hb hby at_81) ?_
    refine XT.ishr Xk0c1_11.here hx rfl (hb hby at_82) rfl ?_
    refine XS.iconst Xk0c1_11.here hx rfl (hb hby at_83) ?_
    refine XS.iand Xk0c1_11.here hx rfl (hb hby at_84) rfl ?_
    refine XS.iadd Xk0c1_11.here hx rfl (hb hby at_85) rfl ?_
    refine XS.iload Xk0c1_11.here hx rfl (hb hby at_86) rfl ?_
    refine XS.iconst Xk0c1_11.here hx rfl (hb hby at_88) ?_
    refine XT.ishr Xk0c1_11.here hx rfl (hb hby at_89) rfl ?_
    refine XS.iconst Xk0c1_11.here hx rfl (hb hby at_90) ?_
    refine XS.iand Xk0c1_11.here hx rfl (hb hby at_91) rfl ?_
    refine XS.iadd Xk0c1_11.here hx rfl (hb hby at_92) rfl ?_
    refine XS.iload Xk0c1_11.here hx rfl (hb hby at_93) rfl ?_
    refine XS.iconst Xk0c1_11.here hx rfl (hb hby at_95) ?_
    refine XT.ishr Xk0c1_11.here hx rfl (hb hby at_96) rfl ?_
    refine XS.iconst Xk0c1_11.here hx rfl (hb hby at_97) ?_
    refine XS.iand Xk0c1_11.here hx rfl (hb hby at_98) rfl ?_
    refine XS.iadd Xk0c1_11.here hx rfl (hb hby at_99) rfl ?_
    refine XS.iload Xk0c1_11.here hx rfl (hb hby at_100) rfl ?_
    refine XS.iconst Xk0c1_11.here hx rfl (hb hby at_102) ?_
    refine XT.ishr Xk0c1_11.here hx rfl (hb hby at_103) rfl ?_
    refine XS.iconst Xk0c1_11.here hx rfl (hb hby at_104) ?_
    refine XS.iand Xk0c1_11.here hx rfl (hb hby at_105) rfl ?_
    refine XS.iadd Xk0c1_11.here hx rfl (hb hby at_106) rfl ?_
    refine XS.iload Xk0c1_11.here hx rfl (hb hby at_107) rfl ?_
    refine XS.iconst Xk0c1_11.here hx rfl (hb hby at_109) ?_
    refine XT.ishr Xk0c1_11.here hx rfl (hb hby at_110) rfl ?_
    refine XS.iconst Xk0c1_11.here hx rfl (hb hby at_111) ?_
    refine XS.iand Xk0c1_11.here hx rfl (hb hby at_112) rfl ?_
    refine XS.iadd Xk0c1_11.here hx rfl (hb hby at_113) rfl ?_
    refine XS.istore Xk0c1_11.here hx rfl (hb hby at_114) rfl (l' := #[.val (.int p0c1_0), .val (.int p0c1_1), .val (.int p0c1_2), .val (.int p0c1_3), .val (.int (1 : Int32)), .val (.ref bk0c1_1_0), .val (.ref bk0c1_3_0), .val (.ref bk0c1_5_0), .val (.double (own_v0c1_1 p0c1_3)), .second, .val (.ref bn0c1_7), .val (.int (own_v0c1_2 p0c1_1)), .val (.int (own_v0c1_3 p0c1_1)), .val (.int (own_v0c1_4 p0c1_1))]) rfl ?_
    refine XS.iload Xk0c1_11.here hx rfl (hb hby at_116) rfl ?_
    refine XS.iload Xk0c1_11.here hx rfl (hb hby at_118) rfl ?_
    refine XS.icmpNo Xk0c1_11.here hx rfl (hb hby at_120) rfl (XT.ii_ne_f hc120) ?_
    refine XS.iconst Xk0c1_11.here hx rfl (hb hby at_123) ?_
    refine XS.goto Xk0c1_11.here hx rfl (pc0 := 124) (pc' := 128) rfl (hb hby at_124) (by decide) (by decide) ?_
    show Steps p.tables e below (Tk0c1_11.setTop (mkF m 128 #[.val (.int p0c1_0), .val (.int p0c1_1), .val (.int p0c1_2), .val (.int p0c1_3), .val (.int (1 : Int32)), .val (.ref bk0c1_1_0), .val (.ref bk0c1_3_0), .val (.ref bk0c1_5_0), .val (.double (own_v0c1_1 p0c1_3)), .second, .val (.ref bn0c1_7), .val (.int (own_v0c1_2 p0c1_1)), .val (.int (own_v0c1_3 p0c1_1)), .val (.int (own_v0c1_4 p0c1_1))] [(.int (1 : Int32))])) _
    exact retN Xk0c1_11 hx (t := .boolean) Bd.returns (by simp) (hb hby at_128) hr
  · show own_Q0c1 Z p0c1_0 p0c1_1 p0c1_2 p0c1_3 h0 n0 _ Tk0c1_11.heap _
    rw [ek0c1_11]
    exact ⟨rfl, Nk0c1_11⟩
def own_v0c2_0 (p0c2_0 : Int32) : Int32 := ((p0c2_0 &&& (2147483647 : Int32)) - ((p0c2_0 &&& (2147483647 : Int32)) / (7 : Int32)) * (7 : Int32))
def own_v0c2_1 (p0c2_3 : Int32) : UInt64 := (FP.i2d (p0c2_3 &&& (255 : Int32)))
def own_v0c2_2 (p0c2_1 : Int32) : Int32 := (own_rrc2_2 (nar .boolean (own_vruns2_0 p0c2_1)) (nar .boolean (own_vruns2_1 p0c2_1)))
def own_v0c2_3 (p0c2_1 : Int32) : Int32 := (p0c2_1 &&& (((1 : Int32) <<< ((2 : Int32) &&& 31)) - (1 : Int32)))
def own_v0c2_4 (p0c2_1 : Int32) : Int32 := (((((((own_v0c2_3 p0c2_1) &&& (1 : Int32)) + (((own_v0c2_3 p0c2_1) >>> ((1 : Int32) &&& 31)) &&& (1 : Int32))) + (((own_v0c2_3 p0c2_1) >>> ((2 : Int32) &&& 31)) &&& (1 : Int32))) + (((own_v0c2_3 p0c2_1) >>> ((3 : Int32) &&& 31)) &&& (1 : Int32))) + (((own_v0c2_3 p0c2_1) >>> ((4 : Int32) &&& 31)) &&& (1 : Int32))) + (((own_v0c2_3 p0c2_1) >>> ((5 : Int32) &&& 31)) &&& (1 : Int32)))
theorem own_ef0c2 (m : MethodId) (p0c2_0 : Int32) (p0c2_1 : Int32) (p0c2_2 : Int32) (p0c2_3 : Int32) : entryFrame m #[(.int p0c2_0), (.int p0c2_1), (.int p0c2_2), (.int p0c2_3)] maxLocals = mkF m 0 #[.val (.int p0c2_0), .val (.int p0c2_1), .val (.int p0c2_2), .val (.int p0c2_3), .unset, .unset, .unset, .unset, .unset, .unset, .unset, .unset, .unset, .unset] [] := by first | (simp [entryFrame, mkF, argsToLocals, Value.category, maxLocals]; done) | rfl
def own_Q0c2 (Z : State) (p0c2_0 : Int32) (p0c2_1 : Int32) (p0c2_2 : Int32) (p0c2_3 : Int32) (h0 : Heap) (n0 : Nat) (v : Option Value) (h : Heap) (L : List Loc) : Prop := v = some (.int (1 : Int32)) ∧ Fr n0 L
set_option maxRecDepth 65536 in
set_option maxHeartbeats 40000000 in
theorem own_rm0c2 (l : Launch) (Z : State) (a0 : Array Value) (hw : ∀ d ∈ tables_1, d.before a0 Z = true) (ws : List Jvm.Cond) (p0c2_0 : Int32) (p0c2_1 : Int32) (p0c2_2 : Int32) (p0c2_3 : Int32) (h0 : Heap) (n0 : Nat) (Z0 : n0 ≤ h0.size) (fx7 : (own_v0c2_0 p0c2_0) = (2 : Int32)) (hc120 : (own_v0c2_2 p0c2_1) = (own_v0c2_4 p0c2_1)) :
    MetFree l x (head1 (Jvm.Cond.code x code maxLocals ret :: ws) room_1) (fun a U => a = #[(.int p0c2_0), (.int p0c2_1), (.int p0c2_2), (.int p0c2_3)] ∧ Z.Warmed39 U.vm ∧ U.heap = h0) (fun _ _ _ _ _ => True) (fun _ U o U' => ∃ v L, o = .returned v ∧ own_Q0c2 Z p0c2_0 p0c2_1 p0c2_2 p0c2_3 h0 n0 v U'.heap L ∧ FrameEnd U o U' L room_1.cells room_1.slots) := by
  refine MetFree.of_bodySF (plainFor_of_name own_pn0) hisR ?_
  intro p e s m args below meth c s₁ Bd hml0 hP hK
  obtain ⟨rfl, hZ, hh⟩ := hP
  have hx := Bd.exec
  have hby := Bd.bytes
  have hml : c.maxLocals = 14 := hml0
  have hown : s.vm.findClass "com/example/arborway/arborway/sim/WalkRunningCountPinLaw" = some m.cls := findClass_of_methodNamed Bd.named
  have hnm := (name_of_methodNamed Bd.named Bd.method).1
  have X0 : Stand p l e room_1 s m #[(.int p0c2_0), (.int p0c2_1), (.int p0c2_2), (.int p0c2_3)] below meth c s₁ [] 0 0 := Stand.of_body Bd
  have e0 : s₁.heap = h0 := by rw [← hh, Bd.state]; rfl
  have N0 := Fr.nil n0
  have Zr : h0.size ≤ h0.size := Nat.le_refl _
  have pre0 : ∀ t, Steps p.tables e below (s₁.setTop (mkF m 0 #[.val (.int p0c2_0), .val (.int p0c2_1), .val (.int p0c2_2), .val (.int p0c2_3), .unset, .unset, .unset, .unset, .unset, .unset, .unset, .unset, .unset, .unset] [])) t → Steps p.tables e below (s₁.setTop (entryFrame m #[(.int p0c2_0), (.int p0c2_1), (.int p0c2_2), (.int p0c2_3)] maxLocals)) t := fun t k => castTop (own_ef0c2 m p0c2_0 p0c2_1 p0c2_2 p0c2_3) k
  obtain ⟨_, _, ⟨Tk0c2_1, Lk0c2_1, kk0c2_1, nk0c2_1⟩, -, Xk0c2_1, ⟨Lck0c2_1, hQk0c2_1, lk0c2_1, yk0c2_1, zk0c2_1⟩, stk0c2_1⟩ := Jvm.LawKit.callS X0 hx (y := (⟨"com/example/arborway/arborway/sim/WalkRunningCountPinLaw", "runs", "(II)[Z"⟩ : MethodName)) hown (mvT hZ (own_W hw 1 rfl)) (mvT hZ (own_W hw 2 rfl)) (mvT hZ (own_W hw 3 rfl)) (mvT hZ (own_W hw 4 rfl)) (by decide) (backOf (W := 0) (own_rmruns2 l Z a0 hw [] p0c2_1 h0 n0 Z0) hZ (own_W hw 4 rfl) (own_W hw 3 rfl) (by decide) (by decide)) (g := (mkF m 12 #[.val (.int p0c2_0), .val (.int p0c2_1), .val (.int p0c2_2), .val (.int p0c2_3), .val (.int (2 : Int32)), .unset, .unset, .unset, .unset, .unset, .unset, .unset, .unset, .unset] [(.int p0c2_1), (.int (2 : Int32))])) rfl (by rw [hml]; rfl) (argsL := [(.int (2 : Int32)), (.int p0c2_1)]) (rest := []) (lenOf own_pd4 rfl) rfl (by show 2 * 0 + _ ≤ _; exact Nat.le_of_eq rfl) (hb hby at_12) (fun _ _ => ⟨rfl, e0, (by decide : 0 + 1 ≤ _), (by decide : 0 + 2 ≤ _)⟩)
  dsimp only [Pt.U, Pt.locs, Pt.cells, Pt.slots] at Xk0c2_1 lk0c2_1 yk0c2_1 zk0c2_1 stk0c2_1 hQk0c2_1
  replace lk0c2_1 := lk0c2_1.symm; replace yk0c2_1 := yk0c2_1.symm; replace zk0c2_1 := zk0c2_1.symm; subst lk0c2_1 yk0c2_1 zk0c2_1
  obtain ⟨bk0c2_1_0, kk0c2_1_1, rfl, Nk0c2_1q, Kk0c2_1, lebk0c2_1_0, Qk0c2_1_0⟩ := hQk0c2_1
  have g_bk0c2_1_0 : n0 ≤ bk0c2_1_0 := Nat.le_trans Z0 lebk0c2_1_0
  have sz_bk0c2_1_0 : h0.size ≤ bk0c2_1_0 := Nat.le_trans Zr lebk0c2_1_0
  have sz0c2_2 : h0.size ≤ Tk0c2_1.heap.size := Nat.le_trans Zr Kk0c2_1.1
  have Nk0c2_1 := Fr.app N0 Nk0c2_1q
  obtain ⟨_, _, ⟨Tk0c2_3, Lk0c2_3, kk0c2_3, nk0c2_3⟩, -, Xk0c2_3, ⟨Lck0c2_3, hQk0c2_3, lk0c2_3, yk0c2_3, zk0c2_3⟩, stk0c2_3⟩ := Jvm.LawKit.callS Xk0c2_1 hx (y := (⟨"com/example/arborway/arborway/sim/WalkRunningCountPinLaw", "depths", "(II)[I"⟩ : MethodName)) hown (mvT hZ (own_W hw 9 rfl)) (mvT hZ (own_W hw 10 rfl)) (mvT hZ (own_W hw 3 rfl)) (mvT hZ (own_W hw 11 rfl)) (by decide) (backOf (W := 0) (own_rmdepths2 l Z a0 hw [] p0c2_2 Tk0c2_1.heap n0 (Nat.le_trans Z0 sz0c2_2)) hZ (own_W hw 11 rfl) (own_W hw 3 rfl) (by decide) (by decide)) (g := (mkF m 20 #[.val (.int p0c2_0), .val (.int p0c2_1), .val (.int p0c2_2), .val (.int p0c2_3), .val (.int (2 : Int32)), .val (.ref bk0c2_1_0), .unset, .unset, .unset, .unset, .unset, .unset, .unset, .unset] [(.int p0c2_2), (.int (2 : Int32))])) rfl (by rw [hml]; rfl) (argsL := [(.int (2 : Int32)), (.int p0c2_2)]) (rest := []) (lenOf own_pd5 rfl) rfl (by show 2 * 0 + _ ≤ _; exact Nat.le_of_eq rfl) (hb hby at_20) (fun _ _ => ⟨rfl, rfl, (by decide : 1 + 1 ≤ _), (by decide : 2 + 2 ≤ _)⟩)
  dsimp only [Pt.U, Pt.locs, Pt.cells, Pt.slots] at Xk0c2_3 lk0c2_3 yk0c2_3 zk0c2_3 stk0c2_3 hQk0c2_3
  replace lk0c2_3 := lk0c2_3.symm; replace yk0c2_3 := yk0c2_3.symm; replace zk0c2_3 := zk0c2_3.symm; subst lk0c2_3 yk0c2_3 zk0c2_3
  obtain ⟨bk0c2_3_0, kk0c2_3_1, rfl, Nk0c2_3q, Kk0c2_3, lebk0c2_3_0, Qk0c2_3_0⟩ := hQk0c2_3
  have g_bk0c2_3_0 : n0 ≤ bk0c2_3_0 := Nat.le_trans (Nat.le_trans Z0 sz0c2_2) lebk0c2_3_0
  have sz_bk0c2_3_0 : h0.size ≤ bk0c2_3_0 := Nat.le_trans sz0c2_2 lebk0c2_3_0
  have sz0c2_4 : h0.size ≤ Tk0c2_3.heap.size := Nat.le_trans sz0c2_2 Kk0c2_3.1
  have Nk0c2_3 := Fr.app Nk0c2_1 Nk0c2_3q
  obtain ⟨_, _, ⟨Tk0c2_5, Lk0c2_5, kk0c2_5, nk0c2_5⟩, -, Xk0c2_5, ⟨Lck0c2_5, hQk0c2_5, lk0c2_5, yk0c2_5, zk0c2_5⟩, stk0c2_5⟩ := Jvm.LawKit.callS Xk0c2_3 hx (y := (⟨"com/example/arborway/arborway/sim/WalkRunningCountPinLaw", "delays", "(II)[D"⟩ : MethodName)) hown (mvT hZ (own_W hw 13 rfl)) (mvT hZ (own_W hw 14 rfl)) (mvT hZ (own_W hw 3 rfl)) (mvT hZ (own_W hw 15 rfl)) (by decide) (backOf (W := 0) (own_rmdelays2 l Z a0 hw [] p0c2_2 Tk0c2_3.heap n0 (Nat.le_trans Z0 sz0c2_4)) hZ (own_W hw 15 rfl) (own_W hw 3 rfl) (by decide) (by decide)) (g := (mkF m 28 #[.val (.int p0c2_0), .val (.int p0c2_1), .val (.int p0c2_2), .val (.int p0c2_3), .val (.int (2 : Int32)), .val (.ref bk0c2_1_0), .val (.ref bk0c2_3_0), .unset, .unset, .unset, .unset, .unset, .unset, .unset] [(.int p0c2_2), (.int (2 : Int32))])) rfl (by rw [hml]; rfl) (argsL := [(.int (2 : Int32)), (.int p0c2_2)]) (rest := []) (lenOf own_pd6 rfl) rfl (by show 2 * 0 + _ ≤ _; exact Nat.le_of_eq rfl) (hb hby at_28) (fun _ _ => ⟨rfl, rfl, (by decide : 2 + 1 ≤ _), (by decide : 4 + 2 ≤ _)⟩)
  dsimp only [Pt.U, Pt.locs, Pt.cells, Pt.slots] at Xk0c2_5 lk0c2_5 yk0c2_5 zk0c2_5 stk0c2_5 hQk0c2_5
  replace lk0c2_5 := lk0c2_5.symm; replace yk0c2_5 := yk0c2_5.symm; replace zk0c2_5 := zk0c2_5.symm; subst lk0c2_5 yk0c2_5 zk0c2_5
  obtain ⟨bk0c2_5_0, kk0c2_5_1, rfl, Nk0c2_5q, Kk0c2_5, lebk0c2_5_0, Qk0c2_5_0⟩ := hQk0c2_5
  have g_bk0c2_5_0 : n0 ≤ bk0c2_5_0 := Nat.le_trans (Nat.le_trans Z0 sz0c2_4) lebk0c2_5_0
  have sz_bk0c2_5_0 : h0.size ≤ bk0c2_5_0 := Nat.le_trans sz0c2_4 lebk0c2_5_0
  have sz0c2_6 : h0.size ≤ Tk0c2_5.heap.size := Nat.le_trans sz0c2_4 Kk0c2_5.1
  have Nk0c2_5 := Fr.app Nk0c2_3 Nk0c2_5q
  obtain ⟨Tn0c2_7, hn0c2_7, Xn0c2_7, en0c2_7, En0c2_7, An0c2_7, Dn0c2_7, -, stn0c2_7⟩ := newO Xk0c2_5 hx hZ hown (own_W hw 17 rfl) (own_W hw 18 rfl) (own_W hw 19 rfl) rfl (g := (mkF m 41 #[.val (.int p0c2_0), .val (.int p0c2_1), .val (.int p0c2_2), .val (.int p0c2_3), .val (.int (2 : Int32)), .val (.ref bk0c2_1_0), .val (.ref bk0c2_3_0), .val (.ref bk0c2_5_0), .val (.double (own_v0c2_1 p0c2_3)), .second, .unset, .unset, .unset, .unset] [])) rfl (hb hby at_41) (by decide) (by decide)
  obtain ⟨bn0c2_7, gn0c2_7⟩ : ∃ z, z = Tk0c2_5.heap.size := ⟨_, rfl⟩
  rw [← gn0c2_7] at An0c2_7 Dn0c2_7 stn0c2_7
  have g_bn0c2_7 : n0 ≤ bn0c2_7 := Nat.le_trans (Nat.le_trans Z0 sz0c2_6) (Nat.le_of_eq gn0c2_7.symm)
  have sz_bn0c2_7 : h0.size ≤ bn0c2_7 := Nat.le_trans sz0c2_6 (Nat.le_of_eq gn0c2_7.symm)
  have sz0c2_8 : h0.size ≤ hn0c2_7.size := Nat.le_trans sz0c2_6 En0c2_7.1
  have F_depth_bn0c2_7 : Fld Z hn0c2_7 bn0c2_7 "com/example/arborway/arborway/sim/RunTally$Walk" "depth" "[I" .null := Dn0c2_7 (Or.inr (own_W hw 32 rfl)) (ty := (.array .int)) (by decide)
  have F_rootDelayMs_bn0c2_7 : Fld Z hn0c2_7 bn0c2_7 "com/example/arborway/arborway/sim/RunTally$Walk" "rootDelayMs" "[D" .null := Dn0c2_7 (Or.inr (own_W hw 34 rfl)) (ty := (.array .double)) (by decide)
  have F_running_bn0c2_7 : Fld Z hn0c2_7 bn0c2_7 "com/example/arborway/arborway/sim/RunTally$Walk" "running" "[Z" .null := Dn0c2_7 (Or.inr (own_W hw 36 rfl)) (ty := (.array .boolean)) (by decide)
  have F_costMs_bn0c2_7 : Fld Z hn0c2_7 bn0c2_7 "com/example/arborway/arborway/sim/RunTally$Walk" "costMs" "D" (.double (0 : UInt64)) := Dn0c2_7 (Or.inr (own_W hw 38 rfl)) (ty := .double) (by decide)
  obtain ⟨_, _, ⟨Tk0c2_9, Lk0c2_9, kk0c2_9, nk0c2_9⟩, -, Xk0c2_9, ⟨Lck0c2_9, hQk0c2_9, lk0c2_9, yk0c2_9, zk0c2_9⟩, stk0c2_9⟩ := Xn0c2_7.specialBack hx (y := (⟨"com/example/arborway/arborway/sim/RunTally$Walk", "<init>", "([I[D[ZD)V"⟩ : MethodName)) rfl hown (mvT hZ (own_W hw 20 rfl)) (mvT hZ (own_W hw 21 rfl)) (mvT hZ (own_W hw 22 rfl)) (by decide) (backOf (W := 1) (own_rm5 l Z a0 hw [] bn0c2_7 bk0c2_3_0 bk0c2_5_0 bk0c2_1_0 (own_v0c2_1 p0c2_3) .null .null .null (.double (0 : UInt64)) hn0c2_7 n0 (Nat.le_trans Z0 sz0c2_8) An0c2_7 F_depth_bn0c2_7 g_bn0c2_7 F_rootDelayMs_bn0c2_7 F_running_bn0c2_7 F_costMs_bn0c2_7) hZ (own_W hw 22 rfl) (own_W hw 19 rfl) (by decide) (by decide)) (g := (mkF m 53 #[.val (.int p0c2_0), .val (.int p0c2_1), .val (.int p0c2_2), .val (.int p0c2_3), .val (.int (2 : Int32)), .val (.ref bk0c2_1_0), .val (.ref bk0c2_3_0), .val (.ref bk0c2_5_0), .val (.double (own_v0c2_1 p0c2_3)), .second, .unset, .unset, .unset, .unset] [(.double (own_v0c2_1 p0c2_3)), (.ref bk0c2_1_0), (.ref bk0c2_5_0), (.ref bk0c2_3_0), (.ref bn0c2_7), (.ref bn0c2_7)])) rfl (by rw [hml]; rfl) (Steps.refl _) (a := bn0c2_7) (argsL := [(.ref bk0c2_3_0), (.ref bk0c2_5_0), (.ref bk0c2_1_0), (.double (own_v0c2_1 p0c2_3))]) (rest := [(.ref bn0c2_7)]) (lenOf own_pd7 rfl) rfl (by show 2 * 0 + _ ≤ _; exact Nat.le_of_eq rfl) (hb hby at_53) (fun _ _ => ⟨rfl, en0c2_7, (by decide : 4 + 0 ≤ _), (by decide : 10 + 0 ≤ _)⟩)
  dsimp only [Pt.U, Pt.locs, Pt.cells, Pt.slots] at Xk0c2_9 lk0c2_9 yk0c2_9 zk0c2_9 stk0c2_9 hQk0c2_9
  replace lk0c2_9 := lk0c2_9.symm; replace yk0c2_9 := yk0c2_9.symm; replace zk0c2_9 := zk0c2_9.symm; subst lk0c2_9 yk0c2_9 zk0c2_9
  obtain ⟨rfl, Nk0c2_9q, Kk0c2_9, Qk0c2_9_0, Qk0c2_9_1, Qk0c2_9_2, Qk0c2_9_3, Qk0c2_9_4⟩ := hQk0c2_9
  have sz0c2_10 : h0.size ≤ Tk0c2_9.heap.size := Nat.le_trans sz0c2_8 Kk0c2_9.1
  have Nk0c2_9 := Fr.app Nk0c2_5 Nk0c2_9q
  have ne0c2_12 : bk0c2_1_0 ≠ bn0c2_7 := (Nat.ne_of_lt (Nat.lt_of_lt_of_le ((Qk0c2_1_0.keep Kk0c2_3 nin0).keep Kk0c2_5 nin0).lt (Nat.le_of_eq gn0c2_7.symm)))
  have F0c2_13 := ((((Qk0c2_1_0.keep Kk0c2_3 nin0).keep Kk0c2_5 nin0).ext En0c2_7).keep Kk0c2_9 (ninS ne0c2_12 nin0))
  obtain ⟨cqk0c2_11, kqk0c2_11, qk0c2_11a, qk0c2_11b, qk0c2_11c⟩ := isOf hZ rfl Qk0c2_9_0
  obtain ⟨_, _, ⟨Tk0c2_11, Lk0c2_11, kk0c2_11, nk0c2_11⟩, -, Xk0c2_11, ⟨Lck0c2_11, hQk0c2_11, lk0c2_11, yk0c2_11, zk0c2_11⟩, stk0c2_11⟩ := Xk0c2_9.virtualBack hx (y := (⟨"com/example/arborway/arborway/sim/RunTally$Walk", "runningCount", "()I"⟩ : MethodName)) (z := (⟨"com/example/arborway/arborway/sim/RunTally$Walk", "runningCount", "()I"⟩ : MethodName)) hown (mvT hZ (own_W hw 39 rfl)) (mvT hZ (own_W hw 40 rfl)) (notFace_of_selects (args := #[]) (mvT hZ (own_W hw 42 rfl))) (mvT hZ (own_W hw 42 rfl)) (mvT hZ (own_W hw 41 rfl)) (by decide) (backOf (W := 0) (own_rmrc2 l Z a0 hw [] bn0c2_7 bk0c2_1_0 kk0c2_1_1 (nar .boolean (own_vruns2_0 p0c2_1)) (nar .boolean (own_vruns2_1 p0c2_1)) Tk0c2_9.heap n0 (Nat.le_trans Z0 sz0c2_10) Qk0c2_9_3 F0c2_13) hZ (own_W hw 43 rfl) (own_W hw 19 rfl) (by decide) (by decide)) qk0c2_11a qk0c2_11c (g := (mkF m 60 #[.val (.int p0c2_0), .val (.int p0c2_1), .val (.int p0c2_2), .val (.int p0c2_3), .val (.int (2 : Int32)), .val (.ref bk0c2_1_0), .val (.ref bk0c2_3_0), .val (.ref bk0c2_5_0), .val (.double (own_v0c2_1 p0c2_3)), .second, .val (.ref bn0c2_7), .unset, .unset, .unset] [(.ref bn0c2_7)])) rfl (by rw [hml]; rfl) (Steps.refl _) (argsL := []) (rest := []) (lenOf own_pd8 rfl) rfl (by show 2 * 0 + _ ≤ _; exact Nat.le_of_eq rfl) (hb hby at_60) (fun _ _ => ⟨rfl, rfl, (by decide : 4 + 0 ≤ _), (by decide : 10 + 0 ≤ _)⟩)
  dsimp only [Pt.U, Pt.locs, Pt.cells, Pt.slots] at Xk0c2_11 lk0c2_11 yk0c2_11 zk0c2_11 stk0c2_11 hQk0c2_11
  replace lk0c2_11 := lk0c2_11.symm; replace yk0c2_11 := yk0c2_11.symm; replace zk0c2_11 := zk0c2_11.symm; subst lk0c2_11 yk0c2_11 zk0c2_11
  obtain ⟨rfl, Nk0c2_11q, ek0c2_11⟩ := hQk0c2_11
  have Nk0c2_11 := Fr.app Nk0c2_9 Nk0c2_11q
  obtain ⟨fs, hr, hrun, hended, hW, hsame⟩ := Xk0c2_11.leave (v := some (.int (1 : Int32))) (fun h => by rw [Bd.returns] at h; cases h)
  refine ⟨_, _, pre0 _ (?_), hrun, hended, _, _, rfl, ?_, ⟨_, rfl⟩, hW, hsame.mono (by decide) (by decide)⟩
  · show Steps p.tables e below (s₁.setTop (mkF m 0 #[.val (.int p0c2_0), .val (.int p0c2_1), .val (.int p0c2_2), .val (.int p0c2_3), .unset, .unset, .unset, .unset, .unset, .unset, .unset, .unset, .unset, .unset] [])) _
    refine XS.iloadN X0.here hx rfl (hb hby at_0) rfl ?_
    refine X0.ldcInt hx hown (mvT hZ (own_W hw 0 rfl)) (g := (mkF m 1 #[.val (.int p0c2_0), .val (.int p0c2_1), .val (.int p0c2_2), .val (.int p0c2_3), .unset, .unset, .unset, .unset, .unset, .unset, .unset, .unset, .unset, .unset] [(.int p0c2_0)])) rfl (hb hby at_1) _ ?_
    show Steps p.tables e below (s₁.setTop (mkF m 3 #[.val (.int p0c2_0), .val (.int p0c2_1), .val (.int p0c2_2), .val (.int p0c2_3), .unset, .unset, .unset, .unset, .unset, .unset, .unset, .unset, .unset, .unset] [(.int (2147483647 : Int32)), (.int p0c2_0)])) _
    refine XS.iand X0.here hx rfl (hb hby at_3) rfl ?_
    refine XS.bipush X0.here hx rfl (hb hby at_4) ?_
    refine XS.irem X0.here hx rfl (hb hby at_6) rfl (by decide) ?_
    refine XS.istore X0.here hx rfl (hb hby at_7) rfl (l' := #[.val (.int p0c2_0), .val (.int p0c2_1), .val (.int p0c2_2), .val (.int p0c2_3), .val (.int (own_v0c2_0 p0c2_0)), .unset, .unset, .unset, .unset, .unset, .unset, .unset, .unset, .unset]) rfl ?_
    rw [fx7]
    show Steps p.tables e below (s₁.setTop (mkF m 9 #[.val (.int p0c2_0), .val (.int p0c2_1), .val (.int p0c2_2), .val (.int p0c2_3), .val (.int (2 : Int32)), .unset, .unset, .unset, .unset, .unset, .unset, .unset, .unset, .unset] [])) _
    refine XS.iload X0.here hx rfl (hb hby at_9) rfl ?_
    refine XS.iloadN X0.here hx rfl (hb hby at_11) rfl ?_
    refine stk0c2_1 _ ?_
    show Steps p.tables e below (Tk0c2_1.setTop (mkF m 15 #[.val (.int p0c2_0), .val (.int p0c2_1), .val (.int p0c2_2), .val (.int p0c2_3), .val (.int (2 : Int32)), .unset, .unset, .unset, .unset, .unset, .unset, .unset, .unset, .unset] [(.ref bk0c2_1_0)])) _
    refine XS.astore Xk0c2_1.here hx rfl (hb hby at_15) rfl rfl (l' := #[.val (.int p0c2_0), .val (.int p0c2_1), .val (.int p0c2_2), .val (.int p0c2_3), .val (.int (2 : Int32)), .val (.ref bk0c2_1_0), .unset, .unset, .unset, .unset, .unset, .unset, .unset, .unset]) rfl ?_
    refine XS.iload Xk0c2_1.here hx rfl (hb hby at_17) rfl ?_
    refine XS.iloadN Xk0c2_1.here hx rfl (hb hby at_19) rfl ?_
    refine stk0c2_3 _ ?_
    show Steps p.tables e below (Tk0c2_3.setTop (mkF m 23 #[.val (.int p0c2_0), .val (.int p0c2_1), .val (.int p0c2_2), .val (.int p0c2_3), .val (.int (2 : Int32)), .val (.ref bk0c2_1_0), .unset, .unset, .unset, .unset, .unset, .unset, .unset, .unset] [(.ref bk0c2_3_0)])) _
    refine XS.astore Xk0c2_3.here hx rfl (hb hby at_23) rfl rfl (l' := #[.val (.int p0c2_0), .val (.int p0c2_1), .val (.int p0c2_2), .val (.int p0c2_3), .val (.int (2 : Int32)), .val (.ref bk0c2_1_0), .val (.ref bk0c2_3_0), .unset, .unset, .unset, .unset, .unset, .unset, .unset]) rfl ?_
    refine XS.iload Xk0c2_3.here hx rfl (hb hby at_25) rfl ?_
    refine XS.iloadN Xk0c2_3.here hx rfl (hb hby at_27) rfl ?_
    refine stk0c2_5 _ ?_
    show Steps p.tables e below (Tk0c2_5.setTop (mkF m 31 #[.val (.int p0c2_0), .val (.int p0c2_1), .val (.int p0c2_2), .val (.int p0c2_3), .val (.int (2 : Int32)), .val (.ref bk0c2_1_0), .val (.ref bk0c2_3_0), .unset, .unset, .unset, .unset, .unset, .unset, .unset] [(.ref bk0c2_5_0)])) _
    refine XS.astore Xk0c2_5.here hx rfl (hb hby at_31) rfl rfl (l' := #[.val (.int p0c2_0), .val (.int p0c2_1), .val (.int p0c2_2), .val (.int p0c2_3), .val (.int (2 : Int32)), .val (.ref bk0c2_1_0), .val (.ref bk0c2_3_0), .val (.ref bk0c2_5_0), .unset, .unset, .unset, .unset, .unset, .unset]) rfl ?_
    refine XS.iloadN Xk0c2_5.here hx rfl (hb hby at_33) rfl ?_
    refine XS.sipush Xk0c2_5.here hx rfl (hb hby at_34) ?_
    refine XS.iand Xk0c2_5.here hx rfl (hb hby at_37) rfl ?_
    refine XS.i2dS Xk0c2_5.here hx rfl (hb hby at_38) rfl rfl ?_
    refine XS.dstore Xk0c2_5.here hx rfl (hb hby at_39) rfl (l' := #[.val (.int p0c2_0), .val (.int p0c2_1), .val (.int p0c2_2), .val (.int p0c2_3), .val (.int (2 : Int32)), .val (.ref bk0c2_1_0), .val (.ref bk0c2_3_0), .val (.ref bk0c2_5_0), .val (.double (own_v0c2_1 p0c2_3)), .second, .unset, .unset, .unset, .unset]) rfl ?_
    refine stn0c2_7 _ ?_
    show Steps p.tables e below (Tn0c2_7.setTop (mkF m 44 #[.val (.int p0c2_0), .val (.int p0c2_1), .val (.int p0c2_2), .val (.int p0c2_3), .val (.int (2 : Int32)), .val (.ref bk0c2_1_0), .val (.ref bk0c2_3_0), .val (.ref bk0c2_5_0), .val (.double (own_v0c2_1 p0c2_3)), .second, .unset, .unset, .unset, .unset] [(.ref bn0c2_7)])) _
    refine XS.dup Xn0c2_7.here hx rfl (hb hby at_44) rfl rfl ?_
    refine XS.aload Xn0c2_7.here hx rfl (hb hby at_45) rfl rfl ?_
    refine XS.aload Xn0c2_7.here hx rfl (hb hby at_47) rfl rfl ?_
    refine XS.aload Xn0c2_7.here hx rfl (hb hby at_49) rfl rfl ?_
    refine XS.dload Xn0c2_7.here hx rfl (hb hby at_51) rfl ?_
    refine stk0c2_9.trans ?_
    show Steps p.tables e below (Tk0c2_9.setTop (mkF m 56 #[.val (.int p0c2_0), .val (.int p0c2_1), .val (.int p0c2_2), .val (.int p0c2_3), .val (.int (2 : Int32)), .val (.ref bk0c2_1_0), .val (.ref bk0c2_3_0), .val (.ref bk0c2_5_0), .val (.double (own_v0c2_1 p0c2_3)), .second, .unset, .unset, .unset, .unset] [(.ref bn0c2_7)])) _
    refine XS.astore Xk0c2_9.here hx rfl (hb hby at_56) rfl rfl (l' := #[.val (.int p0c2_0), .val (.int p0c2_1), .val (.int p0c2_2), .val (.int p0c2_3), .val (.int (2 : Int32)), .val (.ref bk0c2_1_0), .val (.ref bk0c2_3_0), .val (.ref bk0c2_5_0), .val (.double (own_v0c2_1 p0c2_3)), .second, .val (.ref bn0c2_7), .unset, .unset, .unset]) rfl ?_
    refine XS.aload Xk0c2_9.here hx rfl (hb hby at_58) rfl rfl ?_
    refine stk0c2_11.trans ?_
    show Steps p.tables e below (Tk0c2_11.setTop (mkF m 63 #[.val (.int p0c2_0), .val (.int p0c2_1), .val (.int p0c2_2), .val (.int p0c2_3), .val (.int (2 : Int32)), .val (.ref bk0c2_1_0), .val (.ref bk0c2_3_0), .val (.ref bk0c2_5_0), .val (.double (own_v0c2_1 p0c2_3)), .second, .val (.ref bn0c2_7), .unset, .unset, .unset] [(.int (own_rrc2_2 (nar .boolean (own_vruns2_0 p0c2_1)) (nar .boolean (own_vruns2_1 p0c2_1))))])) _
    refine XS.istore Xk0c2_11.here hx rfl (hb hby at_63) rfl (l' := #[.val (.int p0c2_0), .val (.int p0c2_1), .val (.int p0c2_2), .val (.int p0c2_3), .val (.int (2 : Int32)), .val (.ref bk0c2_1_0), .val (.ref bk0c2_3_0), .val (.ref bk0c2_5_0), .val (.double (own_v0c2_1 p0c2_3)), .second, .val (.ref bn0c2_7), .val (.int (own_v0c2_2 p0c2_1)), .unset, .unset]) rfl ?_
    refine XS.iloadN Xk0c2_11.here hx rfl (hb hby at_65) rfl ?_
    refine XS.iconst Xk0c2_11.here hx rfl (hb hby at_66) ?_
    refine XS.iload Xk0c2_11.here hx rfl (hb hby at_67) rfl ?_
    refine XT.ishl Xk0c2_11.here hx rfl (hb hby at_69) rfl ?_
    refine XS.iconst Xk0c2_11.here hx rfl (hb hby at_70) ?_
    refine XS.isub Xk0c2_11.here hx rfl (hb hby at_71) rfl ?_
    refine XS.iand Xk0c2_11.here hx rfl (hb hby at_72) rfl ?_
    refine XS.istore Xk0c2_11.here hx rfl (hb hby at_73) rfl (l' := #[.val (.int p0c2_0), .val (.int p0c2_1), .val (.int p0c2_2), .val (.int p0c2_3), .val (.int (2 : Int32)), .val (.ref bk0c2_1_0), .val (.ref bk0c2_3_0), .val (.ref bk0c2_5_0), .val (.double (own_v0c2_1 p0c2_3)), .second, .val (.ref bn0c2_7), .val (.int (own_v0c2_2 p0c2_1)), .val (.int (own_v0c2_3 p0c2_1)), .unset]) rfl ?_
    refine XS.iload Xk0c2_11.here hx rfl (hb hby at_75) rfl ?_
    refine XS.iconst Xk0c2_11.here hx rfl (hb hby at_77) ?_
    refine XS.iand Xk0c2_11.here hx rfl (hb hby at_78) rfl ?_
    refine XS.iload Xk0c2_11.here hx rfl (hb hby at_79) rfl ?_
    refine XS.iconst Xk0c2_11.here hx rfl (hb hby at_81) ?_
    refine XT.ishr Xk0c2_11.here hx rfl (hb hby at_82) rfl ?_
    refine XS.iconst Xk0c2_11.here hx rfl (hb hby at_83) ?_
    refine XS.iand Xk0c2_11.here hx rfl (hb hby at_84) rfl ?_
    refine XS.iadd Xk0c2_11.here hx rfl (hb hby at_85) rfl ?_
    refine XS.iload Xk0c2_11.here hx rfl (hb hby at_86) rfl ?_
    refine XS.iconst Xk0c2_11.here hx rfl (hb hby at_88) ?_
    refine XT.ishr Xk0c2_11.here hx rfl (hb hby at_89) rfl ?_
    refine XS.iconst Xk0c2_11.here hx rfl (hb hby at_90) ?_
    refine XS.iand Xk0c2_11.here hx rfl (hb hby at_91) rfl ?_
    refine XS.iadd Xk0c2_11.here hx rfl (hb hby at_92) rfl ?_
    refine XS.iload Xk0c2_11.here hx rfl (hb hby at_93) rfl ?_
    refine XS.iconst Xk0c2_11.here hx rfl (hb hby at_95) ?_
    refine XT.ishr Xk0c2_11.here hx rfl (hb hby at_96) rfl ?_
    refine XS.iconst Xk0c2_11.here hx rfl (hb hby at_97) ?_
    refine XS.iand Xk0c2_11.here hx rfl (hb hby at_98) rfl ?_
    refine XS.iadd Xk0c2_11.here hx rfl (hb hby at_99) rfl ?_
    refine XS.iload Xk0c2_11.here hx rfl (hb hby at_100) rfl ?_
    refine XS.iconst Xk0c2_11.here hx rfl (hb hby at_102) ?_
    refine XT.ishr Xk0c2_11.here hx rfl (hb hby at_103) rfl ?_
    refine XS.iconst Xk0c2_11.here hx rfl (hb hby at_104) ?_
    refine XS.iand Xk0c2_11.here hx rfl (hb hby at_105) rfl ?_
    refine XS.iadd Xk0c2_11.here hx rfl (hb hby at_106) rfl ?_
    refine XS.iload Xk0c2_11.here hx rfl (hb hby at_107) rfl ?_
    refine XS.iconst Xk0c2_11.here hx rfl (hb hby at_109) ?_
    refine XT.ishr Xk0c2_11.here hx rfl (hb hby at_110) rfl ?_
    refine XS.iconst Xk0c2_11.here hx rfl (hb hby at_111) ?_
    refine XS.iand Xk0c2_11.here hx rfl (hb hby at_112) rfl ?_
    refine XS.iadd Xk0c2_11.here hx rfl (hb hby at_113) rfl ?_
    refine XS.istore Xk0c2_11.here hx rfl (hb hby at_114) rfl (l' := #[.val (.int p0c2_0), .val (.int p0c2_1), .val (.int p0c2_2), .val (.int p0c2_3), .val (.int (2 : Int32)), .val (.ref bk0c2_1_0), .val (.ref bk0c2_3_0), .val (.ref bk0c2_5_0), .val (.double (own_v0c2_1 p0c2_3)), .second, .val (.ref bn0c2_7), .val (.int (own_v0c2_2 p0c2_1)), .val (.int (own_v0c2_3 p0c2_1)), .val (.int (own_v0c2_4 p0c2_1))]) rfl ?_
    refine XS.iload Xk0c2_11.here hx rfl (hb hby at_116) rfl ?_
    refine XS.iload Xk0c2_11.here hx rfl (hb hby at_118) rfl ?_
    refine XS.icmpNo Xk0c2_11.here hx rfl (hb hby at_120) rfl (XT.ii_ne_f hc120) ?_
    refine XS.iconst Xk0c2_11.here hx rfl (hb hby at_123) ?_
    refine XS.goto Xk0c2_11.here hx rfl (pc0 := 124) (pc' := 128) rfl (hb hby at_124) (by decide) (by decide) ?_
    show Steps p.tables e below (Tk0c2_11.setTop (mkF m 128 #[.val (.int p0c2_0), .val (.int p0c2_1), .val (.int p0c2_2), .val (.int p0c2_3), .val (.int (2 : Int32)), .val (.ref bk0c2_1_0), .val (.ref bk0c2_3_0), .val (.ref bk0c2_5_0), .val (.double (own_v0c2_1 p0c2_3)), .second, .val (.ref bn0c2_7), .val (.int (own_v0c2_2 p0c2_1)), .val (.int (own_v0c2_3 p0c2_1)), .val (.int (own_v0c2_4 p0c2_1))] [(.int (1 : Int32))])) _
    exact retN Xk0c2_11 hx (t := .boolean) Bd.returns (by simp) (hb hby at_128) hr
  · show own_Q0c2 Z p0c2_0 p0c2_1 p0c2_2 p0c2_3 h0 n0 _ Tk0c2_11.heap _
    rw [ek0c2_11]
    exact ⟨rfl, Nk0c2_11⟩
def own_v0c3_0 (p0c3_0 : Int32) : Int32 := ((p0c3_0 &&& (2147483647 : Int32)) - ((p0c3_0 &&& (2147483647 : Int32)) / (7 : Int32)) * (7 : Int32))
def own_v0c3_1 (p0c3_3 : Int32) : UInt64 := (FP.i2d (p0c3_3 &&& (255 : Int32)))
def own_v0c3_2 (p0c3_1 : Int32) : Int32 := (own_rrc3_3 (nar .boolean (own_vruns3_0 p0c3_1)) (nar .boolean (own_vruns3_1 p0c3_1)) (nar .boolean (own_vruns3_2 p0c3_1)))
def own_v0c3_3 (p0c3_1 : Int32) : Int32 := (p0c3_1 &&& (((1 : Int32) <<< ((3 : Int32) &&& 31)) - (1 : Int32)))
def own_v0c3_4 (p0c3_1 : Int32) : Int32 := (((((((own_v0c3_3 p0c3_1) &&& (1 : Int32)) + (((own_v0c3_3 p0c3_1) >>> ((1 : Int32) &&& 31)) &&& (1 : Int32))) + (((own_v0c3_3 p0c3_1) >>> ((2 : Int32) &&& 31)) &&& (1 : Int32))) + (((own_v0c3_3 p0c3_1) >>> ((3 : Int32) &&& 31)) &&& (1 : Int32))) + (((own_v0c3_3 p0c3_1) >>> ((4 : Int32) &&& 31)) &&& (1 : Int32))) + (((own_v0c3_3 p0c3_1) >>> ((5 : Int32) &&& 31)) &&& (1 : Int32)))
theorem own_ef0c3 (m : MethodId) (p0c3_0 : Int32) (p0c3_1 : Int32) (p0c3_2 : Int32) (p0c3_3 : Int32) : entryFrame m #[(.int p0c3_0), (.int p0c3_1), (.int p0c3_2), (.int p0c3_3)] maxLocals = mkF m 0 #[.val (.int p0c3_0), .val (.int p0c3_1), .val (.int p0c3_2), .val (.int p0c3_3), .unset, .unset, .unset, .unset, .unset, .unset, .unset, .unset, .unset, .unset] [] := by first | (simp [entryFrame, mkF, argsToLocals, Value.category, maxLocals]; done) | rfl
def own_Q0c3 (Z : State) (p0c3_0 : Int32) (p0c3_1 : Int32) (p0c3_2 : Int32) (p0c3_3 : Int32) (h0 : Heap) (n0 : Nat) (v : Option Value) (h : Heap) (L : List Loc) : Prop := v = some (.int (1 : Int32)) ∧ Fr n0 L
set_option maxRecDepth 65536 in
set_option maxHeartbeats 40000000 in
theorem own_rm0c3 (l : Launch) (Z : State) (a0 : Array Value) (hw : ∀ d ∈ tables_1, d.before a0 Z = true) (ws : List Jvm.Cond) (p0c3_0 : Int32) (p0c3_1 : Int32) (p0c3_2 : Int32) (p0c3_3 : Int32) (h0 : Heap) (n0 : Nat) (Z0 : n0 ≤ h0.size) (fx7 : (own_v0c3_0 p0c3_0) = (3 : Int32)) (hc120 : (own_v0c3_2 p0c3_1) = (own_v0c3_4 p0c3_1)) :
    MetFree l x (head1 (Jvm.Cond.code x code maxLocals ret :: ws) room_1) (fun a U => a = #[(.int p0c3_0), (.int p0c3_1), (.int p0c3_2), (.int p0c3_3)] ∧ Z.Warmed39 U.vm ∧ U.heap = h0) (fun _ _ _ _ _ => True) (fun _ U o U' => ∃ v L, o = .returned v ∧ own_Q0c3 Z p0c3_0 p0c3_1 p0c3_2 p0c3_3 h0 n0 v U'.heap L ∧ FrameEnd U o U' L room_1.cells room_1.slots) := by
  refine MetFree.of_bodySF (plainFor_of_name own_pn0) hisR ?_
  intro p e s m args below meth c s₁ Bd hml0 hP hK
  obtain ⟨rfl, hZ, hh⟩ := hP
  have hx := Bd.exec
  have hby := Bd.bytes
  have hml : c.maxLocals = 14 := hml0
  have hown : s.vm.findClass "com/example/arborway/arborway/sim/WalkRunningCountPinLaw" = some m.cls := findClass_of_methodNamed Bd.named
  have hnm := (name_of_methodNamed Bd.named Bd.method).1
  have X0 : Stand p l e room_1 s m #[(.int p0c3_0), (.int p0c3_1), (.int p0c3_2), (.int p0c3_3)] below meth c s₁ [] 0 0 := Stand.of_body Bd
  have e0 : s₁.heap = h0 := by rw [← hh, Bd.state]; rfl
  have N0 := Fr.nil n0
  have Zr : h0.size ≤ h0.size := Nat.le_refl _
  have pre0 : ∀ t, Steps p.tables e below (s₁.setTop (mkF m 0 #[.val (.int p0c3_0), .val (.int p0c3_1), .val (.int p0c3_2), .val (.int p0c3_3), .unset, .unset, .unset, .unset, .unset, .unset, .unset, .unset, .unset, .unset] [])) t → Steps p.tables e below (s₁.setTop (entryFrame m #[(.int p0c3_0), (.int p0c3_1), (.int p0c3_2), (.int p0c3_3)] maxLocals)) t := fun t k => castTop (own_ef0c3 m p0c3_0 p0c3_1 p0c3_2 p0c3_3) k
  obtain ⟨_, _, ⟨Tk0c3_1, Lk0c3_1, kk0c3_1, nk0c3_1⟩, -, Xk0c3_1, ⟨Lck0c3_1, hQk0c3_1, lk0c3_1, yk0c3_1, zk0c3_1⟩, stk0c3_1⟩ := Jvm.LawKit.callS X0 hx (y := (⟨"com/example/arborway/arborway/sim/WalkRunningCountPinLaw", "runs", "(II)[Z"⟩ : MethodName)) hown (mvT hZ (own_W hw 1 rfl)) (mvT hZ (own_W hw 2 rfl)) (mvT hZ (own_W hw 3 rfl)) (mvT hZ (own_W hw 4 rfl)) (by decide) (backOf (W := 0) (own_rmruns3 l Z a0 hw [] p0c3_1 h0 n0 Z0) hZ (own_W hw 4 rfl) (own_W hw 3 rfl) (by decide) (by decide)) (g := (mkF m 12 #[.val (.int p0c3_0), .val (.int p0c3_1), .val (.int p0c3_2), .val (.int p0c3_3), .val (.int (3 : Int32)), .unset, .unset, .unset, .unset, .unset, .unset, .unset, .unset, .unset] [(.int p0c3_1), (.int (3 : Int32))])) rfl (by rw [hml]; rfl) (argsL := [(.int (3 : Int32)), (.int p0c3_1)]) (rest := []) (lenOf own_pd4 rfl) rfl (by show 2 * 0 + _ ≤ _; exact Nat.le_of_eq rfl) (hb hby at_12) (fun _ _ => ⟨rfl, e0, (by decide : 0 + 1 ≤ _), (by decide : 0 + 3 ≤ _)⟩)
  dsimp only [Pt.U, Pt.locs, Pt.cells, Pt.slots] at Xk0c3_1 lk0c3_1 yk0c3_1 zk0c3_1 stk0c3_1 hQk0c3_1
  replace lk0c3_1 := lk0c3_1.symm; replace yk0c3_1 := yk0c3_1.symm; replace zk0c3_1 := zk0c3_1.symm; subst lk0c3_1 yk0c3_1 zk0c3_1
  obtain ⟨bk0c3_1_0, kk0c3_1_1, rfl, Nk0c3_1q, Kk0c3_1, lebk0c3_1_0, Qk0c3_1_0⟩ := hQk0c3_1
  have g_bk0c3_1_0 : n0 ≤ bk0c3_1_0 := Nat.le_trans Z0 lebk0c3_1_0
  have sz_bk0c3_1_0 : h0.size ≤ bk0c3_1_0 := Nat.le_trans Zr lebk0c3_1_0
  have sz0c3_2 : h0.size ≤ Tk0c3_1.heap.size := Nat.le_trans Zr Kk0c3_1.1
  have Nk0c3_1 := Fr.app N0 Nk0c3_1q
  obtain ⟨_, _, ⟨Tk0c3_3, Lk0c3_3, kk0c3_3, nk0c3_3⟩, -, Xk0c3_3, ⟨Lck0c3_3, hQk0c3_3, lk0c3_3, yk0c3_3, zk0c3_3⟩, stk0c3_3⟩ := Jvm.LawKit.callS Xk0c3_1 hx (y := (⟨"com/example/arborway/arborway/sim/WalkRunningCountPinLaw", "depths", "(II)[I"⟩ : MethodName)) hown (mvT hZ (own_W hw 9 rfl)) (mvT hZ (own_W hw 10 rfl)) (mvT hZ (own_W hw 3 rfl)) (mvT hZ (own_W hw 11 rfl)) (by decide) (backOf (W := 0) (own_rmdepths3 l Z a0 hw [] p0c3_2 Tk0c3_1.heap n0 (Nat.le_trans Z0 sz0c3_2)) hZ (own_W hw 11 rfl) (own_W hw 3 rfl) (by decide) (by decide)) (g := (mkF m 20 #[.val (.int p0c3_0), .val (.int p0c3_1), .val (.int p0c3_2), .val (.int p0c3_3), .val (.int (3 : Int32)), .val (.ref bk0c3_1_0), .unset, .unset, .unset, .unset, .unset, .unset, .unset, .unset] [(.int p0c3_2), (.int (3 : Int32))])) rfl (by rw [hml]; rfl) (argsL := [(.int (3 : Int32)), (.int p0c3_2)]) (rest := []) (lenOf own_pd5 rfl) rfl (by show 2 * 0 + _ ≤ _; exact Nat.le_of_eq rfl) (hb hby at_20) (fun _ _ => ⟨rfl, rfl, (by decide : 1 + 1 ≤ _), (by decide : 3 + 3 ≤ _)⟩)
  dsimp only [Pt.U, Pt.locs, Pt.cells, Pt.slots] at Xk0c3_3 lk0c3_3 yk0c3_3 zk0c3_3 stk0c3_3 hQk0c3_3
  replace lk0c3_3 := lk0c3_3.symm; replace yk0c3_3 := yk0c3_3.symm; replace zk0c3_3 := zk0c3_3.symm; subst lk0c3_3 yk0c3_3 zk0c3_3
  obtain ⟨bk0c3_3_0, kk0c3_3_1, rfl, Nk0c3_3q, Kk0c3_3, lebk0c3_3_0, Qk0c3_3_0⟩ := hQk0c3_3
  have g_bk0c3_3_0 : n0 ≤ bk0c3_3_0 := Nat.le_trans (Nat.le_trans Z0 sz0c3_2) lebk0c3_3_0
  have sz_bk0c3_3_0 : h0.size ≤ bk0c3_3_0 := Nat.le_trans sz0c3_2 lebk0c3_3_0
  have sz0c3_4 : h0.size ≤ Tk0c3_3.heap.size := Nat.le_trans sz0c3_2 Kk0c3_3.1
  have Nk0c3_3 := Fr.app Nk0c3_1 Nk0c3_3q
  obtain ⟨_, _, ⟨Tk0c3_5, Lk0c3_5, kk0c3_5, nk0c3_5⟩, -, Xk0c3_5, ⟨Lck0c3_5, hQk0c3_5, lk0c3_5, yk0c3_5, zk0c3_5⟩, stk0c3_5⟩ := Jvm.LawKit.callS Xk0c3_3 hx (y := (⟨"com/example/arborway/arborway/sim/WalkRunningCountPinLaw", "delays", "(II)[D"⟩ : MethodName)) hown (mvT hZ (own_W hw 13 rfl)) (mvT hZ (own_W hw 14 rfl)) (mvT hZ (own_W hw 3 rfl)) (mvT hZ (own_W hw 15 rfl)) (by decide) (backOf (W := 0) (own_rmdelays3 l Z a0 hw [] p0c3_2 Tk0c3_3.heap n0 (Nat.le_trans Z0 sz0c3_4)) hZ (own_W hw 15 rfl) (own_W hw 3 rfl) (by decide) (by decide)) (g := (mkF m 28 #[.val (.int p0c3_0), .val (.int p0c3_1), .val (.int p0c3_2), .val (.int p0c3_3), .val (.int (3 : Int32)), .val (.ref bk0c3_1_0), .val (.ref bk0c3_3_0), .unset, .unset, .unset, .unset, .unset, .unset, .unset] [(.int p0c3_2), (.int (3 : Int32))])) rfl (by rw [hml]; rfl) (argsL := [(.int (3 : Int32)), (.int p0c3_2)]) (rest := []) (lenOf own_pd6 rfl) rfl (by show 2 * 0 + _ ≤ _; exact Nat.le_of_eq rfl) (hb hby at_28) (fun _ _ => ⟨rfl, rfl, (by decide : 2 + 1 ≤ _), (by decide : 6 + 3 ≤ _)⟩)
  dsimp only [Pt.U, Pt.locs, Pt.cells, Pt.slots] at Xk0c3_5 lk0c3_5 yk0c3_5 zk0c3_5 stk0c3_5 hQk0c3_5
  replace lk0c3_5 := lk0c3_5.symm; replace yk0c3_5 := yk0c3_5.symm; replace zk0c3_5 := zk0c3_5.symm; subst lk0c3_5 yk0c3_5 zk0c3_5
  obtain ⟨bk0c3_5_0, kk0c3_5_1, rfl, Nk0c3_5q, Kk0c3_5, lebk0c3_5_0, Qk0c3_5_0⟩ := hQk0c3_5
  have g_bk0c3_5_0 : n0 ≤ bk0c3_5_0 := Nat.le_trans (Nat.le_trans Z0 sz0c3_4) lebk0c3_5_0
  have sz_bk0c3_5_0 : h0.size ≤ bk0c3_5_0 := Nat.le_trans sz0c3_4 lebk0c3_5_0
  have sz0c3_6 : h0.size ≤ Tk0c3_5.heap.size := Nat.le_trans sz0c3_4 Kk0c3_5.1
  have Nk0c3_5 := Fr.app Nk0c3_3 Nk0c3_5q
  obtain ⟨Tn0c3_7, hn0c3_7, Xn0c3_7, en0c3_7, En0c3_7, An0c3_7, Dn0c3_7, -, stn0c3_7⟩ := newO Xk0c3_5 hx hZ hown (own_W hw 17 rfl) (own_W hw 18 rfl) (own_W hw 19 rfl) rfl (g := (mkF m 41 #[.val (.int p0c3_0), .val (.int p0c3_1), .val (.int p0c3_2), .val (.int p0c3_3), .val (.int (3 : Int32)), .val (.ref bk0c3_1_0), .val (.ref bk0c3_3_0), .val (.ref bk0c3_5_0), .val (.double (own_v0c3_1 p0c3_3)), .second, .unset, .unset, .unset, .unset] [])) rfl (hb hby at_41) (by decide) (by decide)
  obtain ⟨bn0c3_7, gn0c3_7⟩ : ∃ z, z = Tk0c3_5.heap.size := ⟨_, rfl⟩
  rw [← gn0c3_7] at An0c3_7 Dn0c3_7 stn0c3_7
  have g_bn0c3_7 : n0 ≤ bn0c3_7 := Nat.le_trans (Nat.le_trans Z0 sz0c3_6) (Nat.le_of_eq gn0c3_7.symm)
  have sz_bn0c3_7 : h0.size ≤ bn0c3_7 := Nat.le_trans sz0c3_6 (Nat.le_of_eq gn0c3_7.symm)
  have sz0c3_8 : h0.size ≤ hn0c3_7.size := Nat.le_trans sz0c3_6 En0c3_7.1
  have F_depth_bn0c3_7 : Fld Z hn0c3_7 bn0c3_7 "com/example/arborway/arborway/sim/RunTally$Walk" "depth" "[I" .null := Dn0c3_7 (Or.inr (own_W hw 32 rfl)) (ty := (.array .int)) (by decide)
  have F_rootDelayMs_bn0c3_7 : Fld Z hn0c3_7 bn0c3_7 "com/example/arborway/arborway/sim/RunTally$Walk" "rootDelayMs" "[D" .null := Dn0c3_7 (Or.inr (own_W hw 34 rfl)) (ty := (.array .double)) (by decide)
  have F_running_bn0c3_7 : Fld Z hn0c3_7 bn0c3_7 "com/example/arborway/arborway/sim/RunTally$Walk" "running" "[Z" .null := Dn0c3_7 (Or.inr (own_W hw 36 rfl)) (ty := (.array .boolean)) (by decide)
  have F_costMs_bn0c3_7 : Fld Z hn0c3_7 bn0c3_7 "com/example/arborway/arborway/sim/RunTally$Walk" "costMs" "D" (.double (0 : UInt64)) := Dn0c3_7 (Or.inr (own_W hw 38 rfl)) (ty := .double) (by decide)
  obtain ⟨_, _, ⟨Tk0c3_9, Lk0c3_9, kk0c3_9, nk0c3_9⟩, -, Xk0c3_9, ⟨Lck0c3_9, hQk0c3_9, lk0c3_9, yk0c3_9, zk0c3_9⟩, stk0c3_9⟩ := Xn0c3_7.specialBack hx (y := (⟨"com/example/arborway/arborway/sim/RunTally$Walk", "<init>", "([I[D[ZD)V"⟩ : MethodName)) rfl hown (mvT hZ (own_W hw 20 rfl)) (mvT hZ (own_W hw 21 rfl)) (mvT hZ (own_W hw 22 rfl)) (by decide) (backOf (W := 1) (own_rm5 l Z a0 hw [] bn0c3_7 bk0c3_3_0 bk0c3_5_0 bk0c3_1_0 (own_v0c3_1 p0c3_3) .null .null .null (.double (0 : UInt64)) hn0c3_7 n0 (Nat.le_trans Z0 sz0c3_8) An0c3_7 F_depth_bn0c3_7 g_bn0c3_7 F_rootDelayMs_bn0c3_7 F_running_bn0c3_7 F_costMs_bn0c3_7) hZ (own_W hw 22 rfl) (own_W hw 19 rfl) (by decide) (by decide)) (g := (mkF m 53 #[.val (.int p0c3_0), .val (.int p0c3_1), .val (.int p0c3_2), .val (.int p0c3_3), .val (.int (3 : Int32)), .val (.ref bk0c3_1_0), .val (.ref bk0c3_3_0), .val (.ref bk0c3_5_0), .val (.double (own_v0c3_1 p0c3_3)), .second, .unset, .unset, .unset, .unset] [(.double (own_v0c3_1 p0c3_3)), (.ref bk0c3_1_0), (.ref bk0c3_5_0), (.ref bk0c3_3_0), (.ref bn0c3_7), (.ref bn0c3_7)])) rfl (by rw [hml]; rfl) (Steps.refl _) (a := bn0c3_7) (argsL := [(.ref bk0c3_3_0), (.ref bk0c3_5_0), (.ref bk0c3_1_0), (.double (own_v0c3_1 p0c3_3))]) (rest := [(.ref bn0c3_7)]) (lenOf own_pd7 rfl) rfl (by show 2 * 0 + _ ≤ _; exact Nat.le_of_eq rfl) (hb hby at_53) (fun _ _ => ⟨rfl, en0c3_7, (by decide : 4 + 0 ≤ _), (by decide : 13 + 0 ≤ _)⟩)
  dsimp only [Pt.U, Pt.locs, Pt.cells, Pt.slots] at Xk0c3_9 lk0c3_9 yk0c3_9 zk0c3_9 stk0c3_9 hQk0c3_9
  replace lk0c3_9 := lk0c3_9.symm; replace yk0c3_9 := yk0c3_9.symm; replace zk0c3_9 := zk0c3_9.symm; subst lk0c3_9 yk0c3_9 zk0c3_9
  obtain ⟨rfl, Nk0c3_9q, Kk0c3_9, Qk0c3_9_0, Qk0c3_9_1, Qk0c3_9_2, Qk0c3_9_3, Qk0c3_9_4⟩ := hQk0c3_9
  have sz0c3_10 : h0.size ≤ Tk0c3_9.heap.size := Nat.le_trans sz0c3_8 Kk0c3_9.1
  have Nk0c3_9 := Fr.app Nk0c3_5 Nk0c3_9q
  have ne0c3_12 : bk0c3_1_0 ≠ bn0c3_7 := (Nat.ne_of_lt (Nat.lt_of_lt_of_le ((Qk0c3_1_0.keep Kk0c3_3 nin0).keep Kk0c3_5 nin0).lt (Nat.le_of_eq gn0c3_7.symm)))
  have F0c3_13 := ((((Qk0c3_1_0.keep Kk0c3_3 nin0).keep Kk0c3_5 nin0).ext En0c3_7).keep Kk0c3_9 (ninS ne0c3_12 nin0))
  obtain ⟨cqk0c3_11, kqk0c3_11, qk0c3_11a, qk0c3_11b, qk0c3_11c⟩ := isOf hZ rfl Qk0c3_9_0
  obtain ⟨_, _, ⟨Tk0c3_11, Lk0c3_11, kk0c3_11, nk0c3_11⟩, -, Xk0c3_11, ⟨Lck0c3_11, hQk0c3_11, lk0c3_11, yk0c3_11, zk0c3_11⟩, stk0c3_11⟩ := Xk0c3_9.virtualBack hx (y := (⟨"com/example/arborway/arborway/sim/RunTally$Walk", "runningCount", "()I"⟩ : MethodName)) (z := (⟨"com/example/arborway/arborway/sim/RunTally$Walk", "runningCount", "()I"⟩ : MethodName)) hown (mvT hZ (own_W hw 39 rfl)) (mvT hZ (own_W hw 40 rfl)) (notFace_of_selects (args := #[]) (mvT hZ (own_W hw 42 rfl))) (mvT hZ (own_W hw 42 rfl)) (mvT hZ (own_W hw 41 rfl)) (by decide) (backOf (W := 0) (own_rmrc3 l Z a0 hw [] bn0c3_7 bk0c3_1_0 kk0c3_1_1 (nar .boolean (own_vruns3_0 p0c3_1)) (nar .boolean (own_vruns3_1 p0c3_1)) (nar .boolean (own_vruns3_2 p0c3_1)) Tk0c3_9.heap n0 (Nat.le_trans Z0 sz0c3_10) Qk0c3_9_3 F0c3_13) hZ (own_W hw 43 rfl) (own_W hw 19 rfl) (by decide) (by decide)) qk0c3_11a qk0c3_11c (g := (mkF m 60 #[.val (.int p0c3_0), .val (.int p0c3_1), .val (.int p0c3_2), .val (.int p0c3_3), .val (.int (3 : Int32)), .val (.ref bk0c3_1_0), .val (.ref bk0c3_3_0), .val (.ref bk0c3_5_0), .val (.double (own_v0c3_1 p0c3_3)), .second, .val (.ref bn0c3_7), .unset, .unset, .unset] [(.ref bn0c3_7)])) rfl (by rw [hml]; rfl) (Steps.refl _) (argsL := []) (rest := []) (lenOf own_pd8 rfl) rfl (by show 2 * 0 + _ ≤ _; exact Nat.le_of_eq rfl) (hb hby at_60) (fun _ _ => ⟨rfl, rfl, (by decide : 4 + 0 ≤ _), (by decide : 13 + 0 ≤ _)⟩)
  dsimp only [Pt.U, Pt.locs, Pt.cells, Pt.slots] at Xk0c3_11 lk0c3_11 yk0c3_11 zk0c3_11 stk0c3_11 hQk0c3_11
  replace lk0c3_11 := lk0c3_11.symm; replace yk0c3_11 := yk0c3_11.symm; replace zk0c3_11 := zk0c3_11.symm; subst lk0c3_11 yk0c3_11 zk0c3_11
  obtain ⟨rfl, Nk0c3_11q, ek0c3_11⟩ := hQk0c3_11
  have Nk0c3_11 := Fr.app Nk0c3_9 Nk0c3_11q
  obtain ⟨fs, hr, hrun, hended, hW, hsame⟩ := Xk0c3_11.leave (v := some (.int (1 : Int32))) (fun h => by rw [Bd.returns] at h; cases h)
  refine ⟨_, _, pre0 _ (?_), hrun, hended, _, _, rfl, ?_, ⟨_, rfl⟩, hW, hsame.mono (by decide) (by decide)⟩
  · show Steps p.tables e below (s₁.setTop (mkF m 0 #[.val (.int p0c3_0), .val (.int p0c3_1), .val (.int p0c3_2), .val (.int p0c3_3), .unset, .unset, .unset, .unset, .unset, .unset, .unset, .unset, .unset, .unset] [])) _
    refine XS.iloadN X0.here hx rfl (hb hby at_0) rfl ?_
    refine X0.ldcInt hx hown (mvT hZ (own_W hw 0 rfl)) (g := (mkF m 1 #[.val (.int p0c3_0), .val (.int p0c3_1), .val (.int p0c3_2), .val (.int p0c3_3), .unset, .unset, .unset, .unset, .unset, .unset, .unset, .unset, .unset, .unset] [(.int p0c3_0)])) rfl (hb hby at_1) _ ?_
    show Steps p.tables e below (s₁.setTop (mkF m 3 #[.val (.int p0c3_0), .val (.int p0c3_1), .val (.int p0c3_2), .val (.int p0c3_3), .unset, .unset, .unset, .unset, .unset, .unset, .unset, .unset, .unset, .unset] [(.int (2147483647 : Int32)), (.int p0c3_0)])) _
    refine XS.iand X0.here hx rfl (hb hby at_3) rfl ?_
    refine XS.bipush X0.here hx rfl (hb hby at_4) ?_
    refine XS.irem X0.here hx rfl (hb hby at_6) rfl (by decide) ?_
    refine XS.istore X0.here hx rfl (hb hby at_7) rfl (l' := #[.val (.int p0c3_0), .val (.int p0c3_1), .val (.int p0c3_2), .val (.int p0c3_3), .val (.int (own_v0c3_0 p0c3_0)), .unset, .unset, .unset, .unset, .unset, .unset, .unset, .unset, .unset]) rfl ?_
    rw [fx7]
    show Steps p.tables e below (s₁.setTop (mkF m 9 #[.val (.int p0c3_0), .val (.int p0c3_1), .val (.int p0c3_2), .val (.int p0c3_3), .val (.int (3 : Int32)), .unset, .unset, .unset, .unset, .unset, .unset, .unset, .unset, .unset] [])) _
    refine XS.iload X0.here hx rfl (hb hby at_9) rfl ?_
    refine XS.iloadN X0.here hx rfl (hb hby at_11) rfl ?_
    refine stk0c3_1 _ ?_
    show Steps p.tables e below (Tk0c3_1.setTop (mkF m 15 #[.val (.int p0c3_0), .val (.int p0c3_1), .val (.int p0c3_2), .val (.int p0c3_3), .val (.int (3 : Int32)), .unset, .unset, .unset, .unset, .unset, .unset, .unset, .unset, .unset] [(.ref bk0c3_1_0)])) _
    refine XS.astore Xk0c3_1.here hx rfl (hb hby at_15) rfl rfl (l' := #[.val (.int p0c3_0), .val (.int p0c3_1), .val (.int p0c3_2), .val (.int p0c3_3), .val (.int (3 : Int32)), .val (.ref bk0c3_1_0), .unset, .unset, .unset, .unset, .unset, .unset, .unset, .unset]) rfl ?_
    refine XS.iload Xk0c3_1.here hx rfl (hb hby at_17) rfl ?_
    refine XS.iloadN Xk0c3_1.here hx rfl (hb hby at_19) rfl ?_
    refine stk0c3_3 _ ?_
    show Steps p.tables e below (Tk0c3_3.setTop (mkF m 23 #[.val (.int p0c3_0), .val (.int p0c3_1), .val (.int p0c3_2), .val (.int p0c3_3), .val (.int (3 : Int32)), .val (.ref bk0c3_1_0), .unset, .unset, .unset, .unset, .unset, .unset, .unset, .unset] [(.ref bk0c3_3_0)])) _
    refine XS.astore Xk0c3_3.here hx rfl (hb hby at_23) rfl rfl (l' := #[.val (.int p0c3_0), .val (.int p0c3_1), .val (.int p0c3_2), .val (.int p0c3_3), .val (.int (3 : Int32)), .val (.ref bk0c3_1_0), .val (.ref bk0c3_3_0), .unset, .unset, .unset, .unset, .unset, .unset, .unset]) rfl ?_
    refine XS.iload Xk0c3_3.here hx rfl (hb hby at_25) rfl ?_
    refine XS.iloadN Xk0c3_3.here hx rfl (hb hby at_27) rfl ?_
    refine stk0c3_5 _ ?_
    show Steps p.tables e below (Tk0c3_5.setTop (mkF m 31 #[.val (.int p0c3_0), .val (.int p0c3_1), .val (.int p0c3_2), .val (.int p0c3_3), .val (.int (3 : Int32)), .val (.ref bk0c3_1_0), .val (.ref bk0c3_3_0), .unset, .unset, .unset, .unset, .unset, .unset, .unset] [(.ref bk0c3_5_0)])) _
    refine XS.astore Xk0c3_5.here hx rfl (hb hby at_31) rfl rfl (l' := #[.val (.int p0c3_0), .val (.int p0c3_1), .val (.int p0c3_2), .val (.int p0c3_3), .val (.int (3 : Int32)), .val (.ref bk0c3_1_0), .val (.ref bk0c3_3_0), .val (.ref bk0c3_5_0), .unset, .unset, .unset, .unset, .unset, .unset]) rfl ?_
    refine XS.iloadN Xk0c3_5.here hx rfl (hb hby at_33) rfl ?_
    refine XS.sipush Xk0c3_5.here hx rfl (hb hby at_34) ?_
    refine XS.iand Xk0c3_5.here hx rfl (hb hby at_37) rfl ?_
    refine XS.i2dS Xk0c3_5.here hx rfl (hb hby at_38) rfl rfl ?_
    refine XS.dstore Xk0c3_5.here hx rfl (hb hby at_39) rfl (l' := #[.val (.int p0c3_0), .val (.int p0c3_1), .val (.int p0c3_2), .val (.int p0c3_3), .val (.int (3 : Int32)), .val (.ref bk0c3_1_0), .val (.ref bk0c3_3_0), .val (.ref bk0c3_5_0), .val (.double (own_v0c3_1 p0c3_3)), .second, .unset, .unset, .unset, .unset]) rfl ?_
    refine stn0c3_7 _ ?_
    show Steps p.tables e below (Tn0c3_7.setTop (mkF m 44 #[.val (.int p0c3_0), .val (.int p0c3_1), .val (.int p0c3_2), .val (.int p0c3_3), .val (.int (3 : Int32)), .val (.ref bk0c3_1_0), .val (.ref bk0c3_3_0), .val (.ref bk0c3_5_0), .val (.double (own_v0c3_1 p0c3_3)), .second, .unset, .unset, .unset, .unset] [(.ref bn0c3_7)])) _
    refine XS.dup Xn0c3_7.here hx rfl (hb hby at_44) rfl rfl ?_
    refine XS.aload Xn0c3_7.here hx rfl (hb hby at_45) rfl rfl ?_
    refine XS.aload Xn0c3_7.here hx rfl (hb hby at_47) rfl rfl ?_
    refine XS.aload Xn0c3_7.here hx rfl (hb hby at_49) rfl rfl ?_
    refine XS.dload Xn0c3_7.here hx rfl (hb hby at_51) rfl ?_
    refine stk0c3_9.trans ?_
    show Steps p.tables e below (Tk0c3_9.setTop (mkF m 56 #[.val (.int p0c3_0), .val (.int p0c3_1), .val (.int p0c3_2), .val (.int p0c3_3), .val (.int (3 : Int32)), .val (.ref bk0c3_1_0), .val (.ref bk0c3_3_0), .val (.ref bk0c3_5_0), .val (.double (own_v0c3_1 p0c3_3)), .second, .unset, .unset, .unset, .unset] [(.ref bn0c3_7)])) _
    refine XS.astore Xk0c3_9.here hx rfl (hb hby at_56) rfl rfl (l' := #[.val (.int p0c3_0), .val (.int p0c3_1), .val (.int p0c3_2), .val (.int p0c3_3), .val (.int (3 : Int32)), .val (.ref bk0c3_1_0), .val (.ref bk0c3_3_0), .val (.ref bk0c3_5_0), .val (.double (own_v0c3_1 p0c3_3)), .second, .val (.ref bn0c3_7), .unset, .unset, .unset]) rfl ?_
    refine XS.aload Xk0c3_9.here hx rfl (hb hby at_58) rfl rfl ?_
    refine stk0c3_11.trans ?_
    show Steps p.tables e below (Tk0c3_11.setTop (mkF m 63 #[.val (.int p0c3_0), .val (.int p0c3_1), .val (.int p0c3_2), .val (.int p0c3_3), .val (.int (3 : Int32)), .val (.ref bk0c3_1_0), .val (.ref bk0c3_3_0), .val (.ref bk0c3_5_0), .val (.double (own_v0c3_1 p0c3_3)), .second, .val (.ref bn0c3_7), .unset, .unset, .unset] [(.int (own_rrc3_3 (nar .boolean (own_vruns3_0 p0c3_1)) (nar .boolean (own_vruns3_1 p0c3_1)) (nar .boolean (own_vruns3_2 p0c3_1))))])) _
    refine XS.istore Xk0c3_11.here hx rfl (hb hby at_63) rfl (l' := #[.val (.int p0c3_0), .val (.int p0c3_1), .val (.int p0c3_2), .val (.int p0c3_3), .val (.int (3 : Int32)), .val (.ref bk0c3_1_0), .val (.ref bk0c3_3_0), .val (.ref bk0c3_5_0), .val (.double (own_v0c3_1 p0c3_3)), .second, .val (.ref bn0c3_7), .val (.int (own_v0c3_2 p0c3_1)), .unset, .unset]) rfl ?_
    refine XS.iloadN Xk0c3_11.here hx rfl (hb hby at_65) rfl ?_
    refine XS.iconst Xk0c3_11.here hx rfl (hb hby at_66) ?_
    refine XS.iload Xk0c3_11.here hx rfl (hb hby at_67) rfl ?_
    refine XT.ishl Xk0c3_11.here hx rfl (hb hby at_69) rfl ?_
    refine XS.iconst Xk0c3_11.here hx rfl (hb hby at_70) ?_
    refine XS.isub Xk0c3_11.here hx rfl (hb hby at_71) rfl ?_
    refine XS.iand Xk0c3_11.here hx rfl (hb hby at_72) rfl ?_
    refine XS.istore Xk0c3_11.here hx rfl (hb hby at_73) rfl (l' := #[.val (.int p0c3_0), .val (.int p0c3_1), .val (.int p0c3_2), .val (.int p0c3_3), .val (.int (3 : Int32)), .val (.ref bk0c3_1_0), .val (.ref bk0c3_3_0), .val (.ref bk0c3_5_0), .val (.double (own_v0c3_1 p0c3_3)), .second, .val (.ref bn0c3_7), .val (.int (own_v0c3_2 p0c3_1)), .val (.int (own_v0c3_3 p0c3_1)), .unset]) rfl ?_
    refine XS.iload Xk0c3_11.here hx rfl (hb hby at_75) rfl ?_
    refine XS.iconst Xk0c3_11.here hx rfl (hb hby at_77) ?_
    refine XS.iand Xk0c3_11.here hx rfl (hb hby at_78) rfl ?_
    refine XS.iload Xk0c3_11.here hx rfl (hb hby at_79) rfl ?_
    refine XS.iconst Xk0c3_11.here hx rfl (hb hby at_81) ?_
    refine XT.ishr Xk0c3_11.here hx rfl (hb hby at_82) rfl ?_
    refine XS.iconst Xk0c3_11.here hx rfl (hb hby at_83) ?_
    refine XS.iand Xk0c3_11.here hx rfl (hb hby at_84) rfl ?_
    refine XS.iadd Xk0c3_11.here hx rfl (hb hby at_85) rfl ?_
    refine XS.iload Xk0c3_11.here hx rfl (hb hby at_86) rfl ?_
    refine XS.iconst Xk0c3_11.here hx rfl (hb hby at_88) ?_
    refine XT.ishr Xk0c3_11.here hx rfl (hb hby at_89) rfl ?_
    refine XS.iconst Xk0c3_11.here hx rfl (hb hby at_90) ?_
    refine XS.iand Xk0c3_11.here hx rfl (hb hby at_91) rfl ?_
    refine XS.iadd Xk0c3_11.here hx rfl (hb hby at_92) rfl ?_
    refine XS.iload Xk0c3_11.here hx rfl (hb hby at_93) rfl ?_
    refine XS.iconst Xk0c3_11.here hx rfl (hb hby at_95) ?_
    refine XT.ishr Xk0c3_11.here hx rfl (hb hby at_96) rfl ?_
    refine XS.iconst Xk0c3_11.here hx rfl (hb hby at_97) ?_
    refine XS.iand Xk0c3_11.here hx rfl (hb hby at_98) rfl ?_
    refine XS.iadd Xk0c3_11.here hx rfl (hb hby at_99) rfl ?_
    refine XS.iload Xk0c3_11.here hx rfl (hb hby at_100) rfl ?_
    refine XS.iconst Xk0c3_11.here hx rfl (hb hby at_102) ?_
    refine XT.ishr Xk0c3_11.here hx rfl (hb hby at_103) rfl ?_
    refine XS.iconst Xk0c3_11.here hx rfl (hb hby at_104) ?_
    refine XS.iand Xk0c3_11.here hx rfl (hb hby at_105) rfl ?_
    refine XS.iadd Xk0c3_11.here hx rfl (hb hby at_106) rfl ?_
    refine XS.iload Xk0c3_11.here hx rfl (hb hby at_107) rfl ?_
    refine XS.iconst Xk0c3_11.here hx rfl (hb hby at_109) ?_
    refine XT.ishr Xk0c3_11.here hx rfl (hb hby at_110) rfl ?_
    refine XS.iconst Xk0c3_11.here hx rfl (hb hby at_111) ?_
    refine XS.iand Xk0c3_11.here hx rfl (hb hby at_112) rfl ?_
    refine XS.iadd Xk0c3_11.here hx rfl (hb hby at_113) rfl ?_
    refine XS.istore Xk0c3_11.here hx rfl (hb hby at_114) rfl (l' := #[.val (.int p0c3_0), .val (.int p0c3_1), .val (.int p0c3_2), .val (.int p0c3_3), .val (.int (3 : Int32)), .val (.ref bk0c3_1_0), .val (.ref bk0c3_3_0), .val (.ref bk0c3_5_0), .val (.double (own_v0c3_1 p0c3_3)), .second, .val (.ref bn0c3_7), .val (.int (own_v0c3_2 p0c3_1)), .val (.int (own_v0c3_3 p0c3_1)), .val (.int (own_v0c3_4 p0c3_1))]) rfl ?_
    refine XS.iload Xk0c3_11.here hx rfl (hb hby at_116) rfl ?_
    refine XS.iload Xk0c3_11.here hx rfl (hb hby at_118) rfl ?_
    refine XS.icmpNo Xk0c3_11.here hx rfl (hb hby at_120) rfl (XT.ii_ne_f hc120) ?_
    refine XS.iconst Xk0c3_11.here hx rfl (hb hby at_123) ?_
    refine XS.goto Xk0c3_11.here hx rfl (pc0 := 124) (pc' := 128) rfl (hb hby at_124) (by decide) (by decide) ?_
    show Steps p.tables e below (Tk0c3_11.setTop (mkF m 128 #[.val (.int p0c3_0), .val (.int p0c3_1), .val (.int p0c3_2), .val (.int p0c3_3), .val (.int (3 : Int32)), .val (.ref bk0c3_1_0), .val (.ref bk0c3_3_0), .val (.ref bk0c3_5_0), .val (.double (own_v0c3_1 p0c3_3)), .second, .val (.ref bn0c3_7), .val (.int (own_v0c3_2 p0c3_1)), .val (.int (own_v0c3_3 p0c3_1)), .val (.int (own_v0c3_4 p0c3_1))] [(.int (1 : Int32))])) _
    exact retN Xk0c3_11 hx (t := .boolean) Bd.returns (by simp) (hb hby at_128) hr
  · show own_Q0c3 Z p0c3_0 p0c3_1 p0c3_2 p0c3_3 h0 n0 _ Tk0c3_11.heap _
    rw [ek0c3_11]
    exact ⟨rfl, Nk0c3_11⟩
def own_v0c4_0 (p0c4_0 : Int32) : Int32 := ((p0c4_0 &&& (2147483647 : Int32)) - ((p0c4_0 &&& (2147483647 : Int32)) / (7 : Int32)) * (7 : Int32))
def own_v0c4_1 (p0c4_3 : Int32) : UInt64 := (FP.i2d (p0c4_3 &&& (255 : Int32)))
def own_v0c4_2 (p0c4_1 : Int32) : Int32 := (own_rrc4_4 (nar .boolean (own_vruns4_0 p0c4_1)) (nar .boolean (own_vruns4_1 p0c4_1)) (nar .boolean (own_vruns4_2 p0c4_1)) (nar .boolean (own_vruns4_3 p0c4_1)))
def own_v0c4_3 (p0c4_1 : Int32) : Int32 := (p0c4_1 &&& (((1 : Int32) <<< ((4 : Int32) &&& 31)) - (1 : Int32)))
def own_v0c4_4 (p0c4_1 : Int32) : Int32 := (((((((own_v0c4_3 p0c4_1) &&& (1 : Int32)) + (((own_v0c4_3 p0c4_1) >>> ((1 : Int32) &&& 31)) &&& (1 : Int32))) + (((own_v0c4_3 p0c4_1) >>> ((2 : Int32) &&& 31)) &&& (1 : Int32))) + (((own_v0c4_3 p0c4_1) >>> ((3 : Int32) &&& 31)) &&& (1 : Int32))) + (((own_v0c4_3 p0c4_1) >>> ((4 : Int32) &&& 31)) &&& (1 : Int32))) + (((own_v0c4_3 p0c4_1) >>> ((5 : Int32) &&& 31)) &&& (1 : Int32)))
theorem own_ef0c4 (m : MethodId) (p0c4_0 : Int32) (p0c4_1 : Int32) (p0c4_2 : Int32) (p0c4_3 : Int32) : entryFrame m #[(.int p0c4_0), (.int p0c4_1), (.int p0c4_2), (.int p0c4_3)] maxLocals = mkF m 0 #[.val (.int p0c4_0), .val (.int p0c4_1), .val (.int p0c4_2), .val (.int p0c4_3), .unset, .unset, .unset, .unset, .unset, .unset, .unset, .unset, .unset, .unset] [] := by first | (simp [entryFrame, mkF, argsToLocals, Value.category, maxLocals]; done) | rfl
def own_Q0c4 (Z : State) (p0c4_0 : Int32) (p0c4_1 : Int32) (p0c4_2 : Int32) (p0c4_3 : Int32) (h0 : Heap) (n0 : Nat) (v : Option Value) (h : Heap) (L : List Loc) : Prop := v = some (.int (1 : Int32)) ∧ Fr n0 L
set_option maxRecDepth 65536 in
set_option maxHeartbeats 40000000 in
theorem own_rm0c4 (l : Launch) (Z : State) (a0 : Array Value) (hw : ∀ d ∈ tables_1, d.before a0 Z = true) (ws : List Jvm.Cond) (p0c4_0 : Int32) (p0c4_1 : Int32) (p0c4_2 : Int32) (p0c4_3 : Int32) (h0 : Heap) (n0 : Nat) (Z0 : n0 ≤ h0.size) (fx7 : (own_v0c4_0 p0c4_0) = (4 : Int32)) (hc120 : (own_v0c4_2 p0c4_1) = (own_v0c4_4 p0c4_1)) :
    MetFree l x (head1 (Jvm.Cond.code x code maxLocals ret :: ws) room_1) (fun a U => a = #[(.int p0c4_0), (.int p0c4_1), (.int p0c4_2), (.int p0c4_3)] ∧ Z.Warmed39 U.vm ∧ U.heap = h0) (fun _ _ _ _ _ => True) (fun _ U o U' => ∃ v L, o = .returned v ∧ own_Q0c4 Z p0c4_0 p0c4_1 p0c4_2 p0c4_3 h0 n0 v U'.heap L ∧ FrameEnd U o U' L room_1.cells room_1.slots) := by
  refine MetFree.of_bodySF (plainFor_of_name own_pn0) hisR ?_
  intro p e s m args below meth c s₁ Bd hml0 hP hK
  obtain ⟨rfl, hZ, hh⟩ := hP
  have hx := Bd.exec
  have hby := Bd.bytes
  have hml : c.maxLocals = 14 := hml0
  have hown : s.vm.findClass "com/example/arborway/arborway/sim/WalkRunningCountPinLaw" = some m.cls := findClass_of_methodNamed Bd.named
  have hnm := (name_of_methodNamed Bd.named Bd.method).1
  have X0 : Stand p l e room_1 s m #[(.int p0c4_0), (.int p0c4_1), (.int p0c4_2), (.int p0c4_3)] below meth c s₁ [] 0 0 := Stand.of_body Bd
  have e0 : s₁.heap = h0 := by rw [← hh, Bd.state]; rfl
  have N0 := Fr.nil n0
  have Zr : h0.size ≤ h0.size := Nat.le_refl _
  have pre0 : ∀ t, Steps p.tables e below (s₁.setTop (mkF m 0 #[.val (.int p0c4_0), .val (.int p0c4_1), .val (.int p0c4_2), .val (.int p0c4_3), .unset, .unset, .unset, .unset, .unset, .unset, .unset, .unset, .unset, .unset] [])) t → Steps p.tables e below (s₁.setTop (entryFrame m #[(.int p0c4_0), (.int p0c4_1), (.int p0c4_2), (.int p0c4_3)] maxLocals)) t := fun t k => castTop (own_ef0c4 m p0c4_0 p0c4_1 p0c4_2 p0c4_3) k
  obtain ⟨_, _, ⟨Tk0c4_1, Lk0c4_1, kk0c4_1, nk0c4_1⟩, -, Xk0c4_1, ⟨Lck0c4_1, hQk0c4_1, lk0c4_1, yk0c4_1, zk0c4_1⟩, stk0c4_1⟩ := Jvm.LawKit.callS X0 hx (y := (⟨"com/example/arborway/arborway/sim/WalkRunningCountPinLaw", "runs", "(II)[Z"⟩ : MethodName)) hown (mvT hZ (own_W hw 1 rfl)) (mvT hZ (own_W hw 2 rfl)) (mvT hZ (own_W hw 3 rfl)) (mvT hZ (own_W hw 4 rfl)) (by decide) (backOf (W := 0) (own_rmruns4 l Z a0 hw [] p0c4_1 h0 n0 Z0) hZ (own_W hw 4 rfl) (own_W hw 3 rfl) (by decide) (by decide)) (g := (mkF m 12 #[.val (.int p0c4_0), .val (.int p0c4_1), .val (.int p0c4_2), .val (.int p0c4_3), .val (.int (4 : Int32)), .unset, .unset, .unset, .unset, .unset, .unset, .unset, .unset, .unset] [(.int p0c4_1), (.int (4 : Int32))])) rfl (by rw [hml]; rfl) (argsL := [(.int (4 : Int32)), (.int p0c4_1)]) (rest := []) (lenOf own_pd4 rfl) rfl (by show 2 * 0 + _ ≤ _; exact Nat.le_of_eq rfl) (hb hby at_12) (fun _ _ => ⟨rfl, e0, (by decide : 0 + 1 ≤ _), (by decide : 0 + 4 ≤ _)⟩)
  dsimp only [Pt.U, Pt.locs, Pt.cells, Pt.slots] at Xk0c4_1 lk0c4_1 yk0c4_1 zk0c4_1 stk0c4_1 hQk0c4_1
  replace lk0c4_1 := lk0c4_1.symm; replace yk0c4_1 := yk0c4_1.symm; replace zk0c4_1 := zk0c4_1.symm; subst lk0c4_1 yk0c4_1 zk0c4_1
  obtain ⟨bk0c4_1_0, kk0c4_1_1, rfl, Nk0c4_1q, Kk0c4_1, lebk0c4_1_0, Qk0c4_1_0⟩ := hQk0c4_1
  have g_bk0c4_1_0 : n0 ≤ bk0c4_1_0 := Nat.le_trans Z0 lebk0c4_1_0
  have sz_bk0c4_1_0 : h0.size ≤ bk0c4_1_0 := Nat.le_trans Zr lebk0c4_1_0
  have sz0c4_2 : h0.size ≤ Tk0c4_1.heap.size := Nat.le_trans Zr Kk0c4_1.1
  have Nk0c4_1 := Fr.app N0 Nk0c4_1q
  obtain ⟨_, _, ⟨Tk0c4_3, Lk0c4_3, kk0c4_3, nk0c4_3⟩, -, Xk0c4_3, ⟨Lck0c4_3, hQk0c4_3, lk0c4_3, yk0c4_3, zk0c4_3⟩, stk0c4_3⟩ := Jvm.LawKit.callS Xk0c4_1 hx (y := (⟨"com/example/arborway/arborway/sim/WalkRunningCountPinLaw", "depths", "(II)[I"⟩ : MethodName)) hown (mvT hZ (own_W hw 9 rfl)) (mvT hZ (own_W hw 10 rfl)) (mvT hZ (own_W hw 3 rfl)) (mvT hZ (own_W hw 11 rfl)) (by decide) (backOf (W := 0) (own_rmdepths4 l Z a0 hw [] p0c4_2 Tk0c4_1.heap n0 (Nat.le_trans Z0 sz0c4_2)) hZ (own_W hw 11 rfl) (own_W hw 3 rfl) (by decide) (by decide)) (g := (mkF m 20 #[.val (.int p0c4_0), .val (.int p0c4_1), .val (.int p0c4_2), .val (.int p0c4_3), .val (.int (4 : Int32)), .val (.ref bk0c4_1_0), .unset, .unset, .unset, .unset, .unset, .unset, .unset, .unset] [(.int p0c4_2), (.int (4 : Int32))])) rfl (by rw [hml]; rfl) (argsL := [(.int (4 : Int32)), (.int p0c4_2)]) (rest := []) (lenOf own_pd5 rfl) rfl (by show 2 * 0 + _ ≤ _; exact Nat.le_of_eq rfl) (hb hby at_20) (fun _ _ => ⟨rfl, rfl, (by decide : 1 + 1 ≤ _), (by decide : 4 + 4 ≤ _)⟩)
  dsimp only [Pt.U, Pt.locs, Pt.cells, Pt.slots] at Xk0c4_3 lk0c4_3 yk0c4_3 zk0c4_3 stk0c4_3 hQk0c4_3
  replace lk0c4_3 := lk0c4_3.symm; replace yk0c4_3 := yk0c4_3.symm; replace zk0c4_3 := zk0c4_3.symm; subst lk0c4_3 yk0c4_3 zk0c4_3
  obtain ⟨bk0c4_3_0, kk0c4_3_1, rfl, Nk0c4_3q, Kk0c4_3, lebk0c4_3_0, Qk0c4_3_0⟩ := hQk0c4_3
  have g_bk0c4_3_0 : n0 ≤ bk0c4_3_0 := Nat.le_trans (Nat.le_trans Z0 sz0c4_2) lebk0c4_3_0
  have sz_bk0c4_3_0 : h0.size ≤ bk0c4_3_0 := Nat.le_trans sz0c4_2 lebk0c4_3_0
  have sz0c4_4 : h0.size ≤ Tk0c4_3.heap.size := Nat.le_trans sz0c4_2 Kk0c4_3.1
  have Nk0c4_3 := Fr.app Nk0c4_1 Nk0c4_3q
  obtain ⟨_, _, ⟨Tk0c4_5, Lk0c4_5, kk0c4_5, nk0c4_5⟩, -, Xk0c4_5, ⟨Lck0c4_5, hQk0c4_5, lk0c4_5, yk0c4_5, zk0c4_5⟩, stk0c4_5⟩ := Jvm.LawKit.callS Xk0c4_3 hx (y := (⟨"com/example/arborway/arborway/sim/WalkRunningCountPinLaw", "delays", "(II)[D"⟩ : MethodName)) hown (mvT hZ (own_W hw 13 rfl)) (mvT hZ (own_W hw 14 rfl)) (mvT hZ (own_W hw 3 rfl)) (mvT hZ (own_W hw 15 rfl)) (by decide) (backOf (W := 0) (own_rmdelays4 l Z a0 hw [] p0c4_2 Tk0c4_3.heap n0 (Nat.le_trans Z0 sz0c4_4)) hZ (own_W hw 15 rfl) (own_W hw 3 rfl) (by decide) (by decide)) (g := (mkF m 28 #[.val (.int p0c4_0), .val (.int p0c4_1), .val (.int p0c4_2), .val (.int p0c4_3), .val (.int (4 : Int32)), .val (.ref bk0c4_1_0), .val (.ref bk0c4_3_0), .unset, .unset, .unset, .unset, .unset, .unset, .unset] [(.int p0c4_2), (.int (4 : Int32))])) rfl (by rw [hml]; rfl) (argsL := [(.int (4 : Int32)), (.int p0c4_2)]) (rest := []) (lenOf own_pd6 rfl) rfl (by show 2 * 0 + _ ≤ _; exact Nat.le_of_eq rfl) (hb hby at_28) (fun _ _ => ⟨rfl, rfl, (by decide : 2 + 1 ≤ _), (by decide : 8 + 4 ≤ _)⟩)
  dsimp only [Pt.U, Pt.locs, Pt.cells, Pt.slots] at Xk0c4_5 lk0c4_5 yk0c4_5 zk0c4_5 stk0c4_5 hQk0c4_5
  replace lk0c4_5 := lk0c4_5.symm; replace yk0c4_5 := yk0c4_5.symm; replace zk0c4_5 := zk0c4_5.symm; subst lk0c4_5 yk0c4_5 zk0c4_5
  obtain ⟨bk0c4_5_0, kk0c4_5_1, rfl, Nk0c4_5q, Kk0c4_5, lebk0c4_5_0, Qk0c4_5_0⟩ := hQk0c4_5
  have g_bk0c4_5_0 : n0 ≤ bk0c4_5_0 := Nat.le_trans (Nat.le_trans Z0 sz0c4_4) lebk0c4_5_0
  have sz_bk0c4_5_0 : h0.size ≤ bk0c4_5_0 := Nat.le_trans sz0c4_4 lebk0c4_5_0
  have sz0c4_6 : h0.size ≤ Tk0c4_5.heap.size := Nat.le_trans sz0c4_4 Kk0c4_5.1
  have Nk0c4_5 := Fr.app Nk0c4_3 Nk0c4_5q
  obtain ⟨Tn0c4_7, hn0c4_7, Xn0c4_7, en0c4_7, En0c4_7, An0c4_7, Dn0c4_7, -, stn0c4_7⟩ := newO Xk0c4_5 hx hZ hown (own_W hw 17 rfl) (own_W hw 18 rfl) (own_W hw 19 rfl) rfl (g := (mkF m 41 #[.val (.int p0c4_0), .val (.int p0c4_1), .val (.int p0c4_2), .val (.int p0c4_3), .val (.int (4 : Int32)), .val (.ref bk0c4_1_0), .val (.ref bk0c4_3_0), .val (.ref bk0c4_5_0), .val (.double (own_v0c4_1 p0c4_3)), .second, .unset, .unset, .unset, .unset] [])) rfl (hb hby at_41) (by decide) (by decide)
  obtain ⟨bn0c4_7, gn0c4_7⟩ : ∃ z, z = Tk0c4_5.heap.size := ⟨_, rfl⟩
  rw [← gn0c4_7] at An0c4_7 Dn0c4_7 stn0c4_7
  have g_bn0c4_7 : n0 ≤ bn0c4_7 := Nat.le_trans (Nat.le_trans Z0 sz0c4_6) (Nat.le_of_eq gn0c4_7.symm)
  have sz_bn0c4_7 : h0.size ≤ bn0c4_7 := Nat.le_trans sz0c4_6 (Nat.le_of_eq gn0c4_7.symm)
  have sz0c4_8 : h0.size ≤ hn0c4_7.size := Nat.le_trans sz0c4_6 En0c4_7.1
  have F_depth_bn0c4_7 : Fld Z hn0c4_7 bn0c4_7 "com/example/arborway/arborway/sim/RunTally$Walk" "depth" "[I" .null := Dn0c4_7 (Or.inr (own_W hw 32 rfl)) (ty := (.array .int)) (by decide)
  have F_rootDelayMs_bn0c4_7 : Fld Z hn0c4_7 bn0c4_7 "com/example/arborway/arborway/sim/RunTally$Walk" "rootDelayMs" "[D" .null := Dn0c4_7 (Or.inr (own_W hw 34 rfl)) (ty := (.array .double)) (by decide)
  have F_running_bn0c4_7 : Fld Z hn0c4_7 bn0c4_7 "com/example/arborway/arborway/sim/RunTally$Walk" "running" "[Z" .null := Dn0c4_7 (Or.inr (own_W hw 36 rfl)) (ty := (.array .boolean)) (by decide)
  have F_costMs_bn0c4_7 : Fld Z hn0c4_7 bn0c4_7 "com/example/arborway/arborway/sim/RunTally$Walk" "costMs" "D" (.double (0 : UInt64)) := Dn0c4_7 (Or.inr (own_W hw 38 rfl)) (ty := .double) (by decide)
  obtain ⟨_, _, ⟨Tk0c4_9, Lk0c4_9, kk0c4_9, nk0c4_9⟩, -, Xk0c4_9, ⟨Lck0c4_9, hQk0c4_9, lk0c4_9, yk0c4_9, zk0c4_9⟩, stk0c4_9⟩ := Xn0c4_7.specialBack hx (y := (⟨"com/example/arborway/arborway/sim/RunTally$Walk", "<init>", "([I[D[ZD)V"⟩ : MethodName)) rfl hown (mvT hZ (own_W hw 20 rfl)) (mvT hZ (own_W hw 21 rfl)) (mvT hZ (own_W hw 22 rfl)) (by decide) (backOf (W := 1) (own_rm5 l Z a0 hw [] bn0c4_7 bk0c4_3_0 bk0c4_5_0 bk0c4_1_0 (own_v0c4_1 p0c4_3) .null .null .null (.double (0 : UInt64)) hn0c4_7 n0 (Nat.le_trans Z0 sz0c4_8) An0c4_7 F_depth_bn0c4_7 g_bn0c4_7 F_rootDelayMs_bn0c4_7 F_running_bn0c4_7 F_costMs_bn0c4_7) hZ (own_W hw 22 rfl) (own_W hw 19 rfl) (by decide) (by decide)) (g := (mkF m 53 #[.val (.int p0c4_0), .val (.int p0c4_1), .val (.int p0c4_2), .val (.int p0c4_3), .val (.int (4 : Int32)), .val (.ref bk0c4_1_0), .val (.ref bk0c4_3_0), .val (.ref bk0c4_5_0), .val (.double (own_v0c4_1 p0c4_3)), .second, .unset, .unset, .unset, .unset] [(.double (own_v0c4_1 p0c4_3)), (.ref bk0c4_1_0), (.ref bk0c4_5_0), (.ref bk0c4_3_0), (.ref bn0c4_7), (.ref bn0c4_7)])) rfl (by rw [hml]; rfl) (Steps.refl _) (a := bn0c4_7) (argsL := [(.ref bk0c4_3_0), (.ref bk0c4_5_0), (.ref bk0c4_1_0), (.double (own_v0c4_1 p0c4_3))]) (rest := [(.ref bn0c4_7)]) (lenOf own_pd7 rfl) rfl (by show 2 * 0 + _ ≤ _; exact Nat.le_of_eq rfl) (hb hby at_53) (fun _ _ => ⟨rfl, en0c4_7, (by decide : 4 + 0 ≤ _), (by decide : 16 + 0 ≤ _)⟩)
  dsimp only [Pt.U, Pt.locs, Pt.cells, Pt.slots] at Xk0c4_9 lk0c4_9 yk0c4_9 zk0c4_9 stk0c4_9 hQk0c4_9
  replace lk0c4_9 := lk0c4_9.symm; replace yk0c4_9 := yk0c4_9.symm; replace zk0c4_9 := zk0c4_9.symm; subst lk0c4_9 yk0c4_9 zk0c4_9
  obtain ⟨rfl, Nk0c4_9q, Kk0c4_9, Qk0c4_9_0, Qk0c4_9_1, Qk0c4_9_2, Qk0c4_9_3, Qk0c4_9_4⟩ := hQk0c4_9
  have sz0c4_10 : h0.size ≤ Tk0c4_9.heap.size := Nat.le_trans sz0c4_8 Kk0c4_9.1
  have Nk0c4_9 := Fr.app Nk0c4_5 Nk0c4_9q
  have ne0c4_12 : bk0c4_1_0 ≠ bn0c4_7 := (Nat.ne_of_lt (Nat.lt_of_lt_of_le ((Qk0c4_1_0.keep Kk0c4_3 nin0).keep Kk0c4_5 nin0).lt (Nat.le_of_eq gn0c4_7.symm)))
  have F0c4_13 := ((((Qk0c4_1_0.keep Kk0c4_3 nin0).keep Kk0c4_5 nin0).ext En0c4_7).keep Kk0c4_9 (ninS ne0c4_12 nin0))
  obtain ⟨cqk0c4_11, kqk0c4_11, qk0c4_11a, qk0c4_11b, qk0c4_11c⟩ := isOf hZ rfl Qk0c4_9_0
  obtain ⟨_, _, ⟨Tk0c4_11, Lk0c4_11, kk0c4_11, nk0c4_11⟩, -, Xk0c4_11, ⟨Lck0c4_11, hQk0c4_11, lk0c4_11, yk0c4_11, zk0c4_11⟩, stk0c4_11⟩ := Xk0c4_9.virtualBack hx (y := (⟨"com/example/arborway/arborway/sim/RunTally$Walk", "runningCount", "()I"⟩ : MethodName)) (z := (⟨"com/example/arborway/arborway/sim/RunTally$Walk", "runningCount", "()I"⟩ : MethodName)) hown (mvT hZ (own_W hw 39 rfl)) (mvT hZ (own_W hw 40 rfl)) (notFace_of_selects (args := #[]) (mvT hZ (own_W hw 42 rfl))) (mvT hZ (own_W hw 42 rfl)) (mvT hZ (own_W hw 41 rfl)) (by decide) (backOf (W := 0) (own_rmrc4 l Z a0 hw [] bn0c4_7 bk0c4_1_0 kk0c4_1_1 (nar .boolean (own_vruns4_0 p0c4_1)) (nar .boolean (own_vruns4_1 p0c4_1)) (nar .boolean (own_vruns4_2 p0c4_1)) (nar .boolean (own_vruns4_3 p0c4_1)) Tk0c4_9.heap n0 (Nat.le_trans Z0 sz0c4_10) Qk0c4_9_3 F0c4_13) hZ (own_W hw 43 rfl) (own_W hw 19 rfl) (by decide) (by decide)) qk0c4_11a qk0c4_11c (g := (mkF m 60 #[.val (.int p0c4_0), .val (.int p0c4_1), .val (.int p0c4_2), .val (.int p0c4_3), .val (.int (4 : Int32)), .val (.ref bk0c4_1_0), .val (.ref bk0c4_3_0), .val (.ref bk0c4_5_0), .val (.double (own_v0c4_1 p0c4_3)), .second, .val (.ref bn0c4_7), .unset, .unset, .unset] [(.ref bn0c4_7)])) rfl (by rw [hml]; rfl) (Steps.refl _) (argsL := []) (rest := []) (lenOf own_pd8 rfl) rfl (by show 2 * 0 + _ ≤ _; exact Nat.le_of_eq rfl) (hb hby at_60) (fun _ _ => ⟨rfl, rfl, (by decide : 4 + 0 ≤ _), (by decide : 16 + 0 ≤ _)⟩)
  dsimp only [Pt.U, Pt.locs, Pt.cells, Pt.slots] at Xk0c4_11 lk0c4_11 yk0c4_11 zk0c4_11 stk0c4_11 hQk0c4_11
  replace lk0c4_11 := lk0c4_11.symm; replace yk0c4_11 := yk0c4_11.symm; replace zk0c4_11 := zk0c4_11.symm; subst lk0c4_11 yk0c4_11 zk0c4_11
  obtain ⟨rfl, Nk0c4_11q, ek0c4_11⟩ := hQk0c4_11
  have Nk0c4_11 := Fr.app Nk0c4_9 Nk0c4_11q
  obtain ⟨fs, hr, hrun, hended, hW, hsame⟩ := Xk0c4_11.leave (v := some (.int (1 : Int32))) (fun h => by rw [Bd.returns] at h; cases h)
  refine ⟨_, _, pre0 _ (?_), hrun, hended, _, _, rfl, ?_, ⟨_, rfl⟩, hW, hsame.mono (by decide) (by decide)⟩
  · show Steps p.tables e below (s₁.setTop (mkF m 0 #[.val (.int p0c4_0), .val (.int p0c4_1), .val (.int p0c4_2), .val (.int p0c4_3), .unset, .unset, .unset, .unset, .unset, .unset, .unset, .unset, .unset, .unset] [])) _
    refine XS.iloadN X0.here hx rfl (hb hby at_0) rfl ?_
    refine X0.ldcInt hx hown (mvT hZ (own_W hw 0 rfl)) (g := (mkF m 1 #[.val (.int p0c4_0), .val (.int p0c4_1), .val (.int p0c4_2), .val (.int p0c4_3), .unset, .unset, .unset, .unset, .unset, .unset, .unset, .unset, .unset, .unset] [(.int p0c4_0)])) rfl (hb hby at_1) _ ?_
    show Steps p.tables e below (s₁.setTop (mkF m 3 #[.val (.int p0c4_0), .val (.int p0c4_1), .val (.int p0c4_2), .val (.int p0c4_3), .unset, .unset, .unset, .unset, .unset, .unset, .unset, .unset, .unset, .unset] [(.int (2147483647 : Int32)), (.int p0c4_0)])) _
    refine XS.iand X0.here hx rfl (hb hby at_3) rfl ?_
    refine XS.bipush X0.here hx rfl (hb hby at_4) ?_
    refine XS.irem X0.here hx rfl (hb hby at_6) rfl (by decide) ?_
    refine XS.istore X0.here hx rfl (hb hby at_7) rfl (l' := #[.val (.int p0c4_0), .val (.int p0c4_1), .val (.int p0c4_2), .val (.int p0c4_3), .val (.int (own_v0c4_0 p0c4_0)), .unset, .unset, .unset, .unset, .unset, .unset, .unset, .unset, .unset]) rfl ?_
    rw [fx7]
    show Steps p.tables e below (s₁.setTop (mkF m 9 #[.val (.int p0c4_0), .val (.int p0c4_1), .val (.int p0c4_2), .val (.int p0c4_3), .val (.int (4 : Int32)), .unset, .unset, .unset, .unset, .unset, .unset, .unset, .unset, .unset] [])) _
    refine XS.iload X0.here hx rfl (hb hby at_9) rfl ?_
    refine XS.iloadN X0.here hx rfl (hb hby at_11) rfl ?_
    refine stk0c4_1 _ ?_
    show Steps p.tables e below (Tk0c4_1.setTop (mkF m 15 #[.val (.int p0c4_0), .val (.int p0c4_1), .val (.int p0c4_2), .val (.int p0c4_3), .val (.int (4 : Int32)), .unset, .unset, .unset, .unset, .unset, .unset, .unset, .unset, .unset] [(.ref bk0c4_1_0)])) _
    refine XS.astore Xk0c4_1.here hx rfl (hb hby at_15) rfl rfl (l' := #[.val (.int p0c4_0), .val (.int p0c4_1), .val (.int p0c4_2), .val (.int p0c4_3), .val (.int (4 : Int32)), .val (.ref bk0c4_1_0), .unset, .unset, .unset, .unset, .unset, .unset, .unset, .unset]) rfl ?_
    refine XS.iload Xk0c4_1.here hx rfl (hb hby at_17) rfl ?_
    refine XS.iloadN Xk0c4_1.here hx rfl (hb hby at_19) rfl ?_
    refine stk0c4_3 _ ?_
    show Steps p.tables e below (Tk0c4_3.setTop (mkF m 23 #[.val (.int p0c4_0), .val (.int p0c4_1), .val (.int p0c4_2), .val (.int p0c4_3), .val (.int (4 : Int32)), .val (.ref bk0c4_1_0), .unset, .unset, .unset, .unset, .unset, .unset, .unset, .unset] [(.ref bk0c4_3_0)])) _
    refine XS.astore Xk0c4_3.here hx rfl (hb hby at_23) rfl rfl (l' := #[.val (.int p0c4_0), .val (.int p0c4_1), .val (.int p0c4_2), .val (.int p0c4_3), .val (.int (4 : Int32)), .val (.ref bk0c4_1_0), .val (.ref bk0c4_3_0), .unset, .unset, .unset, .unset, .unset, .unset, .unset]) rfl ?_
    refine XS.iload Xk0c4_3.here hx rfl (hb hby at_25) rfl ?_
    refine XS.iloadN Xk0c4_3.here hx rfl (hb hby at_27) rfl ?_
    refine stk0c4_5 _ ?_
    show Steps p.tables e below (Tk0c4_5.setTop (mkF m 31 #[.val (.int p0c4_0), .val (.int p0c4_1), .val (.int p0c4_2), .val (.int p0c4_3), .val (.int (4 : Int32)), .val (.ref bk0c4_1_0), .val (.ref bk0c4_3_0), .unset, .unset, .unset, .unset, .unset, .unset, .unset] [(.ref bk0c4_5_0)])) _
    refine XS.astore Xk0c4_5.here hx rfl (hb hby at_31) rfl rfl (l' := #[.val (.int p0c4_0), .val (.int p0c4_1), .val (.int p0c4_2), .val (.int p0c4_3), .val (.int (4 : Int32)), .val (.ref bk0c4_1_0), .val (.ref bk0c4_3_0), .val (.ref bk0c4_5_0), .unset, .unset, .unset, .unset, .unset, .unset]) rfl ?_
    refine XS.iloadN Xk0c4_5.here hx rfl (hb hby at_33) rfl ?_
    refine XS.sipush Xk0c4_5.here hx rfl (hb hby at_34) ?_
    refine XS.iand Xk0c4_5.here hx rfl (hb hby at_37) rfl ?_
    refine XS.i2dS Xk0c4_5.here hx rfl (hb hby at_38) rfl rfl ?_
    refine XS.dstore Xk0c4_5.here hx rfl (hb hby at_39) rfl (l' := #[.val (.int p0c4_0), .val (.int p0c4_1), .val (.int p0c4_2), .val (.int p0c4_3), .val (.int (4 : Int32)), .val (.ref bk0c4_1_0), .val (.ref bk0c4_3_0), .val (.ref bk0c4_5_0), .val (.double (own_v0c4_1 p0c4_3)), .second, .unset, .unset, .unset, .unset]) rfl ?_
    refine stn0c4_7 _ ?_
    show Steps p.tables e below (Tn0c4_7.setTop (mkF m 44 #[.val (.int p0c4_0), .val (.int p0c4_1), .val (.int p0c4_2), .val (.int p0c4_3), .val (.int (4 : Int32)), .val (.ref bk0c4_1_0), .val (.ref bk0c4_3_0), .val (.ref bk0c4_5_0), .val (.double (own_v0c4_1 p0c4_3)), .second, .unset, .unset, .unset, .unset] [(.ref bn0c4_7)])) _
    refine XS.dup Xn0c4_7.here hx rfl (hb hby at_44) rfl rfl ?_
    refine XS.aload Xn0c4_7.here hx rfl (hb hby at_45) rfl rfl ?_
    refine XS.aload Xn0c4_7.here hx rfl (hb hby at_47) rfl rfl ?_
    refine XS.aload Xn0c4_7.here hx rfl (hb hby at_49) rfl rfl ?_
    refine XS.dload Xn0c4_7.here hx rfl (hb hby at_51) rfl ?_
    refine stk0c4_9.trans ?_
    show Steps p.tables e below (Tk0c4_9.setTop (mkF m 56 #[.val (.int p0c4_0), .val (.int p0c4_1), .val (.int p0c4_2), .val (.int p0c4_3), .val (.int (4 : Int32)), .val (.ref bk0c4_1_0), .val (.ref bk0c4_3_0), .val (.ref bk0c4_5_0), .val (.double (own_v0c4_1 p0c4_3)), .second, .unset, .unset, .unset, .unset] [(.ref bn0c4_7)])) _
    refine XS.astore Xk0c4_9.here hx rfl (hb hby at_56) rfl rfl (l' := #[.val (.int p0c4_0), .val (.int p0c4_1), .val (.int p0c4_2), .val (.int p0c4_3), .val (.int (4 : Int32)), .val (.ref bk0c4_1_0), .val (.ref bk0c4_3_0), .val (.ref bk0c4_5_0), .val (.double (own_v0c4_1 p0c4_3)), .second, .val (.ref bn0c4_7), .unset, .unset, .unset]) rfl ?_
    refine XS.aload Xk0c4_9.here hx rfl (hb hby at_58) rfl rfl ?_
    refine stk0c4_11.trans ?_
    show Steps p.tables e below (Tk0c4_11.setTop (mkF m 63 #[.val (.int p0c4_0), .val (.int p0c4_1), .val (.int p0c4_2), .val (.int p0c4_3), .val (.int (4 : Int32)), .val (.ref bk0c4_1_0), .val (.ref bk0c4_3_0), .val (.ref bk0c4_5_0), .val (.double (own_v0c4_1 p0c4_3)), .second, .val (.ref bn0c4_7), .unset, .unset, .unset] [(.int (own_rrc4_4 (nar .boolean (own_vruns4_0 p0c4_1)) (nar .boolean (own_vruns4_1 p0c4_1)) (nar .boolean (own_vruns4_2 p0c4_1)) (nar .boolean (own_vruns4_3 p0c4_1))))])) _
    refine XS.istore Xk0c4_11.here hx rfl (hb hby at_63) rfl (l' := #[.val (.int p0c4_0), .val (.int p0c4_1), .val (.int p0c4_2), .val (.int p0c4_3), .val (.int (4 : Int32)), .val (.ref bk0c4_1_0), .val (.ref bk0c4_3_0), .val (.ref bk0c4_5_0), .val (.double (own_v0c4_1 p0c4_3)), .second, .val (.ref bn0c4_7), .val (.int (own_v0c4_2 p0c4_1)), .unset, .unset]) rfl ?_
    refine XS.iloadN Xk0c4_11.here hx rfl (hb hby at_65) rfl ?_
    refine XS.iconst Xk0c4_11.here hx rfl (hb hby at_66) ?_
    refine XS.iload Xk0c4_11.here hx rfl (hb hby at_67) rfl ?_
    refine XT.ishl Xk0c4_11.here hx rfl (hb hby at_69) rfl ?_
    refine XS.iconst Xk0c4_11.here hx rfl (hb hby at_70) ?_
    refine XS.isub Xk0c4_11.here hx rfl (hb hby at_71) rfl ?_
    refine XS.iand Xk0c4_11.here hx rfl (hb hby at_72) rfl ?_
    refine XS.istore Xk0c4_11.here hx rfl (hb hby at_73) rfl (l' := #[.val (.int p0c4_0), .val (.int p0c4_1), .val (.int p0c4_2), .val (.int p0c4_3), .val (.int (4 : Int32)), .val (.ref bk0c4_1_0), .val (.ref bk0c4_3_0), .val (.ref bk0c4_5_0), .val (.double (own_v0c4_1 p0c4_3)), .second, .val (.ref bn0c4_7), .val (.int (own_v0c4_2 p0c4_1)), .val (.int (own_v0c4_3 p0c4_1)), .unset]) rfl ?_
    refine XS.iload Xk0c4_11.here hx rfl (hb hby at_75) rfl ?_
    refine XS.iconst Xk0c4_11.here hx rfl (hb hby at_77) ?_
    refine XS.iand Xk0c4_11.here hx rfl (hb hby at_78) rfl ?_
    refine XS.iload Xk0c4_11.here hx rfl (hb hby at_79) rfl ?_
    refine XS.iconst Xk0c4_11.here hx rfl (hb hby at_81) ?_
    refine XT.ishr Xk0c4_11.here hx rfl (hb hby at_82) rfl ?_
    refine XS.iconst Xk0c4_11.here hx rfl (hb hby at_83) ?_
    refine XS.iand Xk0c4_11.here hx rfl (hb hby at_84) rfl ?_
    refine XS.iadd Xk0c4_11.here hx rfl (hb hby at_85) rfl ?_
    refine XS.iload Xk0c4_11.here hx rfl (hb hby at_86) rfl ?_
    refine XS.iconst Xk0c4_11.here hx rfl (hb hby at_88) ?_
    refine XT.ishr Xk0c4_11.here hx rfl (hb hby at_89) rfl ?_
    refine XS.iconst Xk0c4_11.here hx rfl (hb hby at_90) ?_
    refine XS.iand Xk0c4_11.here hx rfl (hb hby at_91) rfl ?_
    refine XS.iadd Xk0c4_11.here hx rfl (hb hby at_92) rfl ?_
    refine XS.iload Xk0c4_11.here hx rfl (hb hby at_93) rfl ?_
    refine XS.iconst Xk0c4_11.here hx rfl (hb hby at_95) ?_
    refine XT.ishr Xk0c4_11.here hx rfl (hb hby at_96) rfl ?_
    refine XS.iconst Xk0c4_11.here hx rfl (hb hby at_97) ?_
    refine XS.iand Xk0c4_11.here hx rfl (hb hby at_98) rfl ?_
    refine XS.iadd Xk0c4_11.here hx rfl (hb hby at_99) rfl ?_
    refine XS.iload Xk0c4_11.here hx rfl (hb hby at_100) rfl ?_
    refine XS.iconst Xk0c4_11.here hx rfl (hb hby at_102) ?_
    refine XT.ishr Xk0c4_11.here hx rfl (hb hby at_103) rfl ?_
    refine XS.iconst Xk0c4_11.here hx rfl (hb hby at_104) ?_
    refine XS.iand Xk0c4_11.here hx rfl (hb hby at_105) rfl ?_
    refine XS.iadd Xk0c4_11.here hx rfl (hb hby at_106) rfl ?_
    refine XS.iload Xk0c4_11.here hx rfl (hb hby at_107) rfl ?_
    refine XS.iconst Xk0c4_11.here hx rfl (hb hby at_109) ?_
    refine XT.ishr Xk0c4_11.here hx rfl (hb hby at_110) rfl ?_
    refine XS.iconst Xk0c4_11.here hx rfl (hb hby at_111) ?_
    refine XS.iand Xk0c4_11.here hx rfl (hb hby at_112) rfl ?_
    refine XS.iadd Xk0c4_11.here hx rfl (hb hby at_113) rfl ?_
    refine XS.istore Xk0c4_11.here hx rfl (hb hby at_114) rfl (l' := #[.val (.int p0c4_0), .val (.int p0c4_1), .val (.int p0c4_2), .val (.int p0c4_3), .val (.int (4 : Int32)), .val (.ref bk0c4_1_0), .val (.ref bk0c4_3_0), .val (.ref bk0c4_5_0), .val (.double (own_v0c4_1 p0c4_3)), .second, .val (.ref bn0c4_7), .val (.int (own_v0c4_2 p0c4_1)), .val (.int (own_v0c4_3 p0c4_1)), .val (.int (own_v0c4_4 p0c4_1))]) rfl ?_
    refine XS.iload Xk0c4_11.here hx rfl (hb hby at_116) rfl ?_
    refine XS.iload Xk0c4_11.here hx rfl (hb hby at_118) rfl ?_
    refine XS.icmpNo Xk0c4_11.here hx rfl (hb hby at_120) rfl (XT.ii_ne_f hc120) ?_
    refine XS.iconst Xk0c4_11.here hx rfl (hb hby at_123) ?_
    refine XS.goto Xk0c4_11.here hx rfl (pc0 := 124) (pc' := 128) rfl (hb hby at_124) (by decide) (by decide) ?_
    show Steps p.tables e below (Tk0c4_11.setTop (mkF m 128 #[.val (.int p0c4_0), .val (.int p0c4_1), .val (.int p0c4_2), .val (.int p0c4_3), .val (.int (4 : Int32)), .val (.ref bk0c4_1_0), .val (.ref bk0c4_3_0), .val (.ref bk0c4_5_0), .val (.double (own_v0c4_1 p0c4_3)), .second, .val (.ref bn0c4_7), .val (.int (own_v0c4_2 p0c4_1)), .val (.int (own_v0c4_3 p0c4_1)), .val (.int (own_v0c4_4 p0c4_1))] [(.int (1 : Int32))])) _
    exact retN Xk0c4_11 hx (t := .boolean) Bd.returns (by simp) (hb hby at_128) hr
  · show own_Q0c4 Z p0c4_0 p0c4_1 p0c4_2 p0c4_3 h0 n0 _ Tk0c4_11.heap _
    rw [ek0c4_11]
    exact ⟨rfl, Nk0c4_11⟩
def own_v0c5_0 (p0c5_0 : Int32) : Int32 := ((p0c5_0 &&& (2147483647 : Int32)) - ((p0c5_0 &&& (2147483647 : Int32)) / (7 : Int32)) * (7 : Int32))
def own_v0c5_1 (p0c5_3 : Int32) : UInt64 := (FP.i2d (p0c5_3 &&& (255 : Int32)))
def own_v0c5_2 (p0c5_1 : Int32) : Int32 := (own_rrc5_5 (nar .boolean (own_vruns5_0 p0c5_1)) (nar .boolean (own_vruns5_1 p0c5_1)) (nar .boolean (own_vruns5_2 p0c5_1)) (nar .boolean (own_vruns5_3 p0c5_1)) (nar .boolean (own_vruns5_4 p0c5_1)))
def own_v0c5_3 (p0c5_1 : Int32) : Int32 := (p0c5_1 &&& (((1 : Int32) <<< ((5 : Int32) &&& 31)) - (1 : Int32)))
def own_v0c5_4 (p0c5_1 : Int32) : Int32 := (((((((own_v0c5_3 p0c5_1) &&& (1 : Int32)) + (((own_v0c5_3 p0c5_1) >>> ((1 : Int32) &&& 31)) &&& (1 : Int32))) + (((own_v0c5_3 p0c5_1) >>> ((2 : Int32) &&& 31)) &&& (1 : Int32))) + (((own_v0c5_3 p0c5_1) >>> ((3 : Int32) &&& 31)) &&& (1 : Int32))) + (((own_v0c5_3 p0c5_1) >>> ((4 : Int32) &&& 31)) &&& (1 : Int32))) + (((own_v0c5_3 p0c5_1) >>> ((5 : Int32) &&& 31)) &&& (1 : Int32)))
theorem own_ef0c5 (m : MethodId) (p0c5_0 : Int32) (p0c5_1 : Int32) (p0c5_2 : Int32) (p0c5_3 : Int32) : entryFrame m #[(.int p0c5_0), (.int p0c5_1), (.int p0c5_2), (.int p0c5_3)] maxLocals = mkF m 0 #[.val (.int p0c5_0), .val (.int p0c5_1), .val (.int p0c5_2), .val (.int p0c5_3), .unset, .unset, .unset, .unset, .unset, .unset, .unset, .unset, .unset, .unset] [] := by first | (simp [entryFrame, mkF, argsToLocals, Value.category, maxLocals]; done) | rfl
def own_Q0c5 (Z : State) (p0c5_0 : Int32) (p0c5_1 : Int32) (p0c5_2 : Int32) (p0c5_3 : Int32) (h0 : Heap) (n0 : Nat) (v : Option Value) (h : Heap) (L : List Loc) : Prop := v = some (.int (1 : Int32)) ∧ Fr n0 L
set_option maxRecDepth 65536 in
set_option maxHeartbeats 40000000 in
theorem own_rm0c5 (l : Launch) (Z : State) (a0 : Array Value) (hw : ∀ d ∈ tables_1, d.before a0 Z = true) (ws : List Jvm.Cond) (p0c5_0 : Int32) (p0c5_1 : Int32) (p0c5_2 : Int32) (p0c5_3 : Int32) (h0 : Heap) (n0 : Nat) (Z0 : n0 ≤ h0.size) (fx7 : (own_v0c5_0 p0c5_0) = (5 : Int32)) (hc120 : (own_v0c5_2 p0c5_1) = (own_v0c5_4 p0c5_1)) :
    MetFree l x (head1 (Jvm.Cond.code x code maxLocals ret :: ws) room_1) (fun a U => a = #[(.int p0c5_0), (.int p0c5_1), (.int p0c5_2), (.int p0c5_3)] ∧ Z.Warmed39 U.vm ∧ U.heap = h0) (fun _ _ _ _ _ => True) (fun _ U o U' => ∃ v L, o = .returned v ∧ own_Q0c5 Z p0c5_0 p0c5_1 p0c5_2 p0c5_3 h0 n0 v U'.heap L ∧ FrameEnd U o U' L room_1.cells room_1.slots) := by
  refine MetFree.of_bodySF (plainFor_of_name own_pn0) hisR ?_
  intro p e s m args below meth c s₁ Bd hml0 hP hK
  obtain ⟨rfl, hZ, hh⟩ := hP
  have hx := Bd.exec
  have hby := Bd.bytes
  have hml : c.maxLocals = 14 := hml0
  have hown : s.vm.findClass "com/example/arborway/arborway/sim/WalkRunningCountPinLaw" = some m.cls := findClass_of_methodNamed Bd.named
  have hnm := (name_of_methodNamed Bd.named Bd.method).1
  have X0 : Stand p l e room_1 s m #[(.int p0c5_0), (.int p0c5_1), (.int p0c5_2), (.int p0c5_3)] below meth c s₁ [] 0 0 := Stand.of_body Bd
  have e0 : s₁.heap = h0 := by rw [← hh, Bd.state]; rfl
  have N0 := Fr.nil n0
  have Zr : h0.size ≤ h0.size := Nat.le_refl _
  have pre0 : ∀ t, Steps p.tables e below (s₁.setTop (mkF m 0 #[.val (.int p0c5_0), .val (.int p0c5_1), .val (.int p0c5_2), .val (.int p0c5_3), .unset, .unset, .unset, .unset, .unset, .unset, .unset, .unset, .unset, .unset] [])) t → Steps p.tables e below (s₁.setTop (entryFrame m #[(.int p0c5_0), (.int p0c5_1), (.int p0c5_2), (.int p0c5_3)] maxLocals)) t := fun t k => castTop (own_ef0c5 m p0c5_0 p0c5_1 p0c5_2 p0c5_3) k
  obtain ⟨_, _, ⟨Tk0c5_1, Lk0c5_1, kk0c5_1, nk0c5_1⟩, -, Xk0c5_1, ⟨Lck0c5_1, hQk0c5_1, lk0c5_1, yk0c5_1, zk0c5_1⟩, stk0c5_1⟩ := Jvm.LawKit.callS X0 hx (y := (⟨"com/example/arborway/arborway/sim/WalkRunningCountPinLaw", "runs", "(II)[Z"⟩ : MethodName)) hown (mvT hZ (own_W hw 1 rfl)) (mvT hZ (own_W hw 2 rfl)) (mvT hZ (own_W hw 3 rfl)) (mvT hZ (own_W hw 4 rfl)) (by decide) (backOf (W := 0) (own_rmruns5 l Z a0 hw [] p0c5_1 h0 n0 Z0) hZ (own_W hw 4 rfl) (own_W hw 3 rfl) (by decide) (by decide)) (g := (mkF m 12 #[.val (.int p0c5_0), .val (.int p0c5_1), .val (.int p0c5_2), .val (.int p0c5_3), .val (.int (5 : Int32)), .unset, .unset, .unset, .unset, .unset, .unset, .unset, .unset, .unset] [(.int p0c5_1), (.int (5 : Int32))])) rfl (by rw [hml]; rfl) (argsL := [(.int (5 : Int32)), (.int p0c5_1)]) (rest := []) (lenOf own_pd4 rfl) rfl (by show 2 * 0 + _ ≤ _; exact Nat.le_of_eq rfl) (hb hby at_12) (fun _ _ => ⟨rfl, e0, (by decide : 0 + 1 ≤ _), (by decide : 0 + 5 ≤ _)⟩)
  dsimp only [Pt.U, Pt.locs, Pt.cells, Pt.slots] at Xk0c5_1 lk0c5_1 yk0c5_1 zk0c5_1 stk0c5_1 hQk0c5_1
  replace lk0c5_1 := lk0c5_1.symm; replace yk0c5_1 := yk0c5_1.symm; replace zk0c5_1 := zk0c5_1.symm; subst lk0c5_1 yk0c5_1 zk0c5_1
  obtain ⟨bk0c5_1_0, kk0c5_1_1, rfl, Nk0c5_1q, Kk0c5_1, lebk0c5_1_0, Qk0c5_1_0⟩ := hQk0c5_1
  have g_bk0c5_1_0 : n0 ≤ bk0c5_1_0 := Nat.le_trans Z0 lebk0c5_1_0
  have sz_bk0c5_1_0 : h0.size ≤ bk0c5_1_0 := Nat.le_trans Zr lebk0c5_1_0
  have sz0c5_2 : h0.size ≤ Tk0c5_1.heap.size := Nat.le_trans Zr Kk0c5_1.1
  have Nk0c5_1 := Fr.app N0 Nk0c5_1q
  obtain ⟨_, _, ⟨Tk0c5_3, Lk0c5_3, kk0c5_3, nk0c5_3⟩, -, Xk0c5_3, ⟨Lck0c5_3, hQk0c5_3, lk0c5_3, yk0c5_3, zk0c5_3⟩, stk0c5_3⟩ := Jvm.LawKit.callS Xk0c5_1 hx (y := (⟨"com/example/arborway/arborway/sim/WalkRunningCountPinLaw", "depths", "(II)[I"⟩ : MethodName)) hown (mvT hZ (own_W hw 9 rfl)) (mvT hZ (own_W hw 10 rfl)) (mvT hZ (own_W hw 3 rfl)) (mvT hZ (own_W hw 11 rfl)) (by decide) (backOf (W := 0) (own_rmdepths5 l Z a0 hw [] p0c5_2 Tk0c5_1.heap n0 (Nat.le_trans Z0 sz0c5_2)) hZ (own_W hw 11 rfl) (own_W hw 3 rfl) (by decide) (by decide)) (g := (mkF m 20 #[.val (.int p0c5_0), .val (.int p0c5_1), .val (.int p0c5_2), .val (.int p0c5_3), .val (.int (5 : Int32)), .val (.ref bk0c5_1_0), .unset, .unset, .unset, .unset, .unset, .unset, .unset, .unset] [(.int p0c5_2), (.int (5 : Int32))])) rfl (by rw [hml]; rfl) (argsL := [(.int (5 : Int32)), (.int p0c5_2)]) (rest := []) (lenOf own_pd5 rfl) rfl (by show 2 * 0 + _ ≤ _; exact Nat.le_of_eq rfl) (hb hby at_20) (fun _ _ => ⟨rfl, rfl, (by decide : 1 + 1 ≤ _), (by decide : 5 + 5 ≤ _)⟩)
  dsimp only [Pt.U, Pt.locs, Pt.cells, Pt.slots] at Xk0c5_3 lk0c5_3 yk0c5_3 zk0c5_3 stk0c5_3 hQk0c5_3
  replace lk0c5_3 := lk0c5_3.symm; replace yk0c5_3 := yk0c5_3.symm; replace zk0c5_3 := zk0c5_3.symm; subst lk0c5_3 yk0c5_3 zk0c5_3
  obtain ⟨bk0c5_3_0, kk0c5_3_1, rfl, Nk0c5_3q, Kk0c5_3, lebk0c5_3_0, Qk0c5_3_0⟩ := hQk0c5_3
  have g_bk0c5_3_0 : n0 ≤ bk0c5_3_0 := Nat.le_trans (Nat.le_trans Z0 sz0c5_2) lebk0c5_3_0
  have sz_bk0c5_3_0 : h0.size ≤ bk0c5_3_0 := Nat.le_trans sz0c5_2 lebk0c5_3_0
  have sz0c5_4 : h0.size ≤ Tk0c5_3.heap.size := Nat.le_trans sz0c5_2 Kk0c5_3.1
  have Nk0c5_3 := Fr.app Nk0c5_1 Nk0c5_3q
  obtain ⟨_, _, ⟨Tk0c5_5, Lk0c5_5, kk0c5_5, nk0c5_5⟩, -, Xk0c5_5, ⟨Lck0c5_5, hQk0c5_5, lk0c5_5, yk0c5_5, zk0c5_5⟩, stk0c5_5⟩ := Jvm.LawKit.callS Xk0c5_3 hx (y := (⟨"com/example/arborway/arborway/sim/WalkRunningCountPinLaw", "delays", "(II)[D"⟩ : MethodName)) hown (mvT hZ (own_W hw 13 rfl)) (mvT hZ (own_W hw 14 rfl)) (mvT hZ (own_W hw 3 rfl)) (mvT hZ (own_W hw 15 rfl)) (by decide) (backOf (W := 0) (own_rmdelays5 l Z a0 hw [] p0c5_2 Tk0c5_3.heap n0 (Nat.le_trans Z0 sz0c5_4)) hZ (own_W hw 15 rfl) (own_W hw 3 rfl) (by decide) (by decide)) (g := (mkF m 28 #[.val (.int p0c5_0), .val (.int p0c5_1), .val (.int p0c5_2), .val (.int p0c5_3), .val (.int (5 : Int32)), .val (.ref bk0c5_1_0), .val (.ref bk0c5_3_0), .unset, .unset, .unset, .unset, .unset, .unset, .unset] [(.int p0c5_2), (.int (5 : Int32))])) rfl (by rw [hml]; rfl) (argsL := [(.int (5 : Int32)), (.int p0c5_2)]) (rest := []) (lenOf own_pd6 rfl) rfl (by show 2 * 0 + _ ≤ _; exact Nat.le_of_eq rfl) (hb hby at_28) (fun _ _ => ⟨rfl, rfl, (by decide : 2 + 1 ≤ _), (by decide : 10 + 5 ≤ _)⟩)
  dsimp only [Pt.U, Pt.locs, Pt.cells, Pt.slots] at Xk0c5_5 lk0c5_5 yk0c5_5 zk0c5_5 stk0c5_5 hQk0c5_5
  replace lk0c5_5 := lk0c5_5.symm; replace yk0c5_5 := yk0c5_5.symm; replace zk0c5_5 := zk0c5_5.symm; subst lk0c5_5 yk0c5_5 zk0c5_5
  obtain ⟨bk0c5_5_0, kk0c5_5_1, rfl, Nk0c5_5q, Kk0c5_5, lebk0c5_5_0, Qk0c5_5_0⟩ := hQk0c5_5
  have g_bk0c5_5_0 : n0 ≤ bk0c5_5_0 := Nat.le_trans (Nat.le_trans Z0 sz0c5_4) lebk0c5_5_0
  have sz_bk0c5_5_0 : h0.size ≤ bk0c5_5_0 := Nat.le_trans sz0c5_4 lebk0c5_5_0
  have sz0c5_6 : h0.size ≤ Tk0c5_5.heap.size := Nat.le_trans sz0c5_4 Kk0c5_5.1
  have Nk0c5_5 := Fr.app Nk0c5_3 Nk0c5_5q
  obtain ⟨Tn0c5_7, hn0c5_7, Xn0c5_7, en0c5_7, En0c5_7, An0c5_7, Dn0c5_7, -, stn0c5_7⟩ := newO Xk0c5_5 hx hZ hown (own_W hw 17 rfl) (own_W hw 18 rfl) (own_W hw 19 rfl) rfl (g := (mkF m 41 #[.val (.int p0c5_0), .val (.int p0c5_1), .val (.int p0c5_2), .val (.int p0c5_3), .val (.int (5 : Int32)), .val (.ref bk0c5_1_0), .val (.ref bk0c5_3_0), .val (.ref bk0c5_5_0), .val (.double (own_v0c5_1 p0c5_3)), .second, .unset, .unset, .unset, .unset] [])) rfl (hb hby at_41) (by decide) (by decide)
  obtain ⟨bn0c5_7, gn0c5_7⟩ : ∃ z, z = Tk0c5_5.heap.size := ⟨_, rfl⟩
  rw [← gn0c5_7] at An0c5_7 Dn0c5_7 stn0c5_7
  have g_bn0c5_7 : n0 ≤ bn0c5_7 := Nat.le_trans (Nat.le_trans Z0 sz0c5_6) (Nat.le_of_eq gn0c5_7.symm)
  have sz_bn0c5_7 : h0.size ≤ bn0c5_7 := Nat.le_trans sz0c5_6 (Nat.le_of_eq gn0c5_7.symm)
  have sz0c5_8 : h0.size ≤ hn0c5_7.size := Nat.le_trans sz0c5_6 En0c5_7.1
  have F_depth_bn0c5_7 : Fld Z hn0c5_7 bn0c5_7 "com/example/arborway/arborway/sim/RunTally$Walk" "depth" "[I" .null := Dn0c5_7 (Or.inr (own_W hw 32 rfl)) (ty := (.array .int)) (by decide)
  have F_rootDelayMs_bn0c5_7 : Fld Z hn0c5_7 bn0c5_7 "com/example/arborway/arborway/sim/RunTally$Walk" "rootDelayMs" "[D" .null := Dn0c5_7 (Or.inr (own_W hw 34 rfl)) (ty := (.array .double)) (by decide)
  have F_running_bn0c5_7 : Fld Z hn0c5_7 bn0c5_7 "com/example/arborway/arborway/sim/RunTally$Walk" "running" "[Z" .null := Dn0c5_7 (Or.inr (own_W hw 36 rfl)) (ty := (.array .boolean)) (by decide)
  have F_costMs_bn0c5_7 : Fld Z hn0c5_7 bn0c5_7 "com/example/arborway/arborway/sim/RunTally$Walk" "costMs" "D" (.double (0 : UInt64)) := Dn0c5_7 (Or.inr (own_W hw 38 rfl)) (ty := .double) (by decide)
  obtain ⟨_, _, ⟨Tk0c5_9, Lk0c5_9, kk0c5_9, nk0c5_9⟩, -, Xk0c5_9, ⟨Lck0c5_9, hQk0c5_9, lk0c5_9, yk0c5_9, zk0c5_9⟩, stk0c5_9⟩ := Xn0c5_7.specialBack hx (y := (⟨"com/example/arborway/arborway/sim/RunTally$Walk", "<init>", "([I[D[ZD)V"⟩ : MethodName)) rfl hown (mvT hZ (own_W hw 20 rfl)) (mvT hZ (own_W hw 21 rfl)) (mvT hZ (own_W hw 22 rfl)) (by decide) (backOf (W := 1) (own_rm5 l Z a0 hw [] bn0c5_7 bk0c5_3_0 bk0c5_5_0 bk0c5_1_0 (own_v0c5_1 p0c5_3) .null .null .null (.double (0 : UInt64)) hn0c5_7 n0 (Nat.le_trans Z0 sz0c5_8) An0c5_7 F_depth_bn0c5_7 g_bn0c5_7 F_rootDelayMs_bn0c5_7 F_running_bn0c5_7 F_costMs_bn0c5_7) hZ (own_W hw 22 rfl) (own_W hw 19 rfl) (by decide) (by decide)) (g := (mkF m 53 #[.val (.int p0c5_0), .val (.int p0c5_1), .val (.int p0c5_2), .val (.int p0c5_3), .val (.int (5 : Int32)), .val (.ref bk0c5_1_0), .val (.ref bk0c5_3_0), .val (.ref bk0c5_5_0), .val (.double (own_v0c5_1 p0c5_3)), .second, .unset, .unset, .unset, .unset] [(.double (own_v0c5_1 p0c5_3)), (.ref bk0c5_1_0), (.ref bk0c5_5_0), (.ref bk0c5_3_0), (.ref bn0c5_7), (.ref bn0c5_7)])) rfl (by rw [hml]; rfl) (Steps.refl _) (a := bn0c5_7) (argsL := [(.ref bk0c5_3_0), (.ref bk0c5_5_0), (.ref bk0c5_1_0), (.double (own_v0c5_1 p0c5_3))]) (rest := [(.ref bn0c5_7)]) (lenOf own_pd7 rfl) rfl (by show 2 * 0 + _ ≤ _; exact Nat.le_of_eq rfl) (hb hby at_53) (fun _ _ => ⟨rfl, en0c5_7, (by decide : 4 + 0 ≤ _), (by decide : 19 + 0 ≤ _)⟩)
  dsimp only [Pt.U, Pt.locs, Pt.cells, Pt.slots] at Xk0c5_9 lk0c5_9 yk0c5_9 zk0c5_9 stk0c5_9 hQk0c5_9
  replace lk0c5_9 := lk0c5_9.symm; replace yk0c5_9 := yk0c5_9.symm; replace zk0c5_9 := zk0c5_9.symm; subst lk0c5_9 yk0c5_9 zk0c5_9
  obtain ⟨rfl, Nk0c5_9q, Kk0c5_9, Qk0c5_9_0, Qk0c5_9_1, Qk0c5_9_2, Qk0c5_9_3, Qk0c5_9_4⟩ := hQk0c5_9
  have sz0c5_10 : h0.size ≤ Tk0c5_9.heap.size := Nat.le_trans sz0c5_8 Kk0c5_9.1
  have Nk0c5_9 := Fr.app Nk0c5_5 Nk0c5_9q
  have ne0c5_12 : bk0c5_1_0 ≠ bn0c5_7 := (Nat.ne_of_lt (Nat.lt_of_lt_of_le ((Qk0c5_1_0.keep Kk0c5_3 nin0).keep Kk0c5_5 nin0).lt (Nat.le_of_eq gn0c5_7.symm)))
  have F0c5_13 := ((((Qk0c5_1_0.keep Kk0c5_3 nin0).keep Kk0c5_5 nin0).ext En0c5_7).keep Kk0c5_9 (ninS ne0c5_12 nin0))
  obtain ⟨cqk0c5_11, kqk0c5_11, qk0c5_11a, qk0c5_11b, qk0c5_11c⟩ := isOf hZ rfl Qk0c5_9_0
  obtain ⟨_, _, ⟨Tk0c5_11, Lk0c5_11, kk0c5_11, nk0c5_11⟩, -, Xk0c5_11, ⟨Lck0c5_11, hQk0c5_11, lk0c5_11, yk0c5_11, zk0c5_11⟩, stk0c5_11⟩ := Xk0c5_9.virtualBack hx (y := (⟨"com/example/arborway/arborway/sim/RunTally$Walk", "runningCount", "()I"⟩ : MethodName)) (z := (⟨"com/example/arborway/arborway/sim/RunTally$Walk", "runningCount", "()I"⟩ : MethodName)) hown (mvT hZ (own_W hw 39 rfl)) (mvT hZ (own_W hw 40 rfl)) (notFace_of_selects (args := #[]) (mvT hZ (own_W hw 42 rfl))) (mvT hZ (own_W hw 42 rfl)) (mvT hZ (own_W hw 41 rfl)) (by decide) (backOf (W := 0) (own_rmrc5 l Z a0 hw [] bn0c5_7 bk0c5_1_0 kk0c5_1_1 (nar .boolean (own_vruns5_0 p0c5_1)) (nar .boolean (own_vruns5_1 p0c5_1)) (nar .boolean (own_vruns5_2 p0c5_1)) (nar .boolean (own_vruns5_3 p0c5_1)) (nar .boolean (own_vruns5_4 p0c5_1)) Tk0c5_9.heap n0 (Nat.le_trans Z0 sz0c5_10) Qk0c5_9_3 F0c5_13) hZ (own_W hw 43 rfl) (own_W hw 19 rfl) (by decide) (by decide)) qk0c5_11a qk0c5_11c (g := (mkF m 60 #[.val (.int p0c5_0), .val (.int p0c5_1), .val (.int p0c5_2), .val (.int p0c5_3), .val (.int (5 : Int32)), .val (.ref bk0c5_1_0), .val (.ref bk0c5_3_0), .val (.ref bk0c5_5_0), .val (.double (own_v0c5_1 p0c5_3)), .second, .val (.ref bn0c5_7), .unset, .unset, .unset] [(.ref bn0c5_7)])) rfl (by rw [hml]; rfl) (Steps.refl _) (argsL := []) (rest := []) (lenOf own_pd8 rfl) rfl (by show 2 * 0 + _ ≤ _; exact Nat.le_of_eq rfl) (hb hby at_60) (fun _ _ => ⟨rfl, rfl, (by decide : 4 + 0 ≤ _), (by decide : 19 + 0 ≤ _)⟩)
  dsimp only [Pt.U, Pt.locs, Pt.cells, Pt.slots] at Xk0c5_11 lk0c5_11 yk0c5_11 zk0c5_11 stk0c5_11 hQk0c5_11
  replace lk0c5_11 := lk0c5_11.symm; replace yk0c5_11 := yk0c5_11.symm; replace zk0c5_11 := zk0c5_11.symm; subst lk0c5_11 yk0c5_11 zk0c5_11
  obtain ⟨rfl, Nk0c5_11q, ek0c5_11⟩ := hQk0c5_11
  have Nk0c5_11 := Fr.app Nk0c5_9 Nk0c5_11q
  obtain ⟨fs, hr, hrun, hended, hW, hsame⟩ := Xk0c5_11.leave (v := some (.int (1 : Int32))) (fun h => by rw [Bd.returns] at h; cases h)
  refine ⟨_, _, pre0 _ (?_), hrun, hended, _, _, rfl, ?_, ⟨_, rfl⟩, hW, hsame.mono (by decide) (by decide)⟩
  · show Steps p.tables e below (s₁.setTop (mkF m 0 #[.val (.int p0c5_0), .val (.int p0c5_1), .val (.int p0c5_2), .val (.int p0c5_3), .unset, .unset, .unset, .unset, .unset, .unset, .unset, .unset, .unset, .unset] [])) _
    refine XS.iloadN X0.here hx rfl (hb hby at_0) rfl ?_
    refine X0.ldcInt hx hown (mvT hZ (own_W hw 0 rfl)) (g := (mkF m 1 #[.val (.int p0c5_0), .val (.int p0c5_1), .val (.int p0c5_2), .val (.int p0c5_3), .unset, .unset, .unset, .unset, .unset, .unset, .unset, .unset, .unset, .unset] [(.int p0c5_0)])) rfl (hb hby at_1) _ ?_
    show Steps p.tables e below (s₁.setTop (mkF m 3 #[.val (.int p0c5_0), .val (.int p0c5_1), .val (.int p0c5_2), .val (.int p0c5_3), .unset, .unset, .unset, .unset, .unset, .unset, .unset, .unset, .unset, .unset] [(.int (2147483647 : Int32)), (.int p0c5_0)])) _
    refine XS.iand X0.here hx rfl (hb hby at_3) rfl ?_
    refine XS.bipush X0.here hx rfl (hb hby at_4) ?_
    refine XS.irem X0.here hx rfl (hb hby at_6) rfl (by decide) ?_
    refine XS.istore X0.here hx rfl (hb hby at_7) rfl (l' := #[.val (.int p0c5_0), .val (.int p0c5_1), .val (.int p0c5_2), .val (.int p0c5_3), .val (.int (own_v0c5_0 p0c5_0)), .unset, .unset, .unset, .unset, .unset, .unset, .unset, .unset, .unset]) rfl ?_
    rw [fx7]
    show Steps p.tables e below (s₁.setTop (mkF m 9 #[.val (.int p0c5_0), .val (.int p0c5_1), .val (.int p0c5_2), .val (.int p0c5_3), .val (.int (5 : Int32)), .unset, .unset, .unset, .unset, .unset, .unset, .unset, .unset, .unset] [])) _
    refine XS.iload X0.here hx rfl (hb hby at_9) rfl ?_
    refine XS.iloadN X0.here hx rfl (hb hby at_11) rfl ?_
    refine stk0c5_1 _ ?_
    show Steps p.tables e below (Tk0c5_1.setTop (mkF m 15 #[.val (.int p0c5_0), .val (.int p0c5_1), .val (.int p0c5_2), .val (.int p0c5_3), .val (.int (5 : Int32)), .unset, .unset, .unset, .unset, .unset, .unset, .unset, .unset, .unset] [(.ref bk0c5_1_0)])) _
    refine XS.astore Xk0c5_1.here hx rfl (hb hby at_15) rfl rfl (l' := #[.val (.int p0c5_0), .val (.int p0c5_1), .val (.int p0c5_2), .val (.int p0c5_3), .val (.int (5 : Int32)), .val (.ref bk0c5_1_0), .unset, .unset, .unset, .unset, .unset, .unset, .unset, .unset]) rfl ?_
    refine XS.iload Xk0c5_1.here hx rfl (hb hby at_17) rfl ?_
    refine XS.iloadN Xk0c5_1.here hx rfl (hb hby at_19) rfl ?_
    refine stk0c5_3 _ ?_
    show Steps p.tables e below (Tk0c5_3.setTop (mkF m 23 #[.val (.int p0c5_0), .val (.int p0c5_1), .val (.int p0c5_2), .val (.int p0c5_3), .val (.int (5 : Int32)), .val (.ref bk0c5_1_0), .unset, .unset, .unset, .unset, .unset, .unset, .unset, .unset] [(.ref bk0c5_3_0)])) _
    refine XS.astore Xk0c5_3.here hx rfl (hb hby at_23) rfl rfl (l' := #[.val (.int p0c5_0), .val (.int p0c5_1), .val (.int p0c5_2), .val (.int p0c5_3), .val (.int (5 : Int32)), .val (.ref bk0c5_1_0), .val (.ref bk0c5_3_0), .unset, .unset, .unset, .unset, .unset, .unset, .unset]) rfl ?_
    refine XS.iload Xk0c5_3.here hx rfl (hb hby at_25) rfl ?_
    refine XS.iloadN Xk0c5_3.here hx rfl (hb hby at_27) rfl ?_
    refine stk0c5_5 _ ?_
    show Steps p.tables e below (Tk0c5_5.setTop (mkF m 31 #[.val (.int p0c5_0), .val (.int p0c5_1), .val (.int p0c5_2), .val (.int p0c5_3), .val (.int (5 : Int32)), .val (.ref bk0c5_1_0), .val (.ref bk0c5_3_0), .unset, .unset, .unset, .unset, .unset, .unset, .unset] [(.ref bk0c5_5_0)])) _
    refine XS.astore Xk0c5_5.here hx rfl (hb hby at_31) rfl rfl (l' := #[.val (.int p0c5_0), .val (.int p0c5_1), .val (.int p0c5_2), .val (.int p0c5_3), .val (.int (5 : Int32)), .val (.ref bk0c5_1_0), .val (.ref bk0c5_3_0), .val (.ref bk0c5_5_0), .unset, .unset, .unset, .unset, .unset, .unset]) rfl ?_
    refine XS.iloadN Xk0c5_5.here hx rfl (hb hby at_33) rfl ?_
    refine XS.sipush Xk0c5_5.here hx rfl (hb hby at_34) ?_
    refine XS.iand Xk0c5_5.here hx rfl (hb hby at_37) rfl ?_
    refine XS.i2dS Xk0c5_5.here hx rfl (hb hby at_38) rfl rfl ?_
    refine XS.dstore Xk0c5_5.here hx rfl (hb hby at_39) rfl (l' := #[.val (.int p0c5_0), .val (.int p0c5_1), .val (.int p0c5_2), .val (.int p0c5_3), .val (.int (5 : Int32)), .val (.ref bk0c5_1_0), .val (.ref bk0c5_3_0), .val (.ref bk0c5_5_0), .val (.double (own_v0c5_1 p0c5_3)), .second, .unset, .unset, .unset, .unset]) rfl ?_
    refine stn0c5_7 _ ?_
    show Steps p.tables e below (Tn0c5_7.setTop (mkF m 44 #[.val (.int p0c5_0), .val (.int p0c5_1), .val (.int p0c5_2), .val (.int p0c5_3), .val (.int (5 : Int32)), .val (.ref bk0c5_1_0), .val (.ref bk0c5_3_0), .val (.ref bk0c5_5_0), .val (.double (own_v0c5_1 p0c5_3)), .second, .unset, .unset, .unset, .unset] [(.ref bn0c5_7)])) _
    refine XS.dup Xn0c5_7.here hx rfl (hb hby at_44) rfl rfl ?_
    refine XS.aload Xn0c5_7.here hx rfl (hb hby at_45) rfl rfl ?_
    refine XS.aload Xn0c5_7.here hx rfl (hb hby at_47) rfl rfl ?_
    refine XS.aload Xn0c5_7.here hx rfl (hb hby at_49) rfl rfl ?_
    refine XS.dload Xn0c5_7.here hx rfl (hb hby at_51) rfl ?_
    refine stk0c5_9.trans ?_
    show Steps p.tables e below (Tk0c5_9.setTop (mkF m 56 #[.val (.int p0c5_0), .val (.int p0c5_1), .val (.int p0c5_2), .val (.int p0c5_3), .val (.int (5 : Int32)), .val (.ref bk0c5_1_0), .val (.ref bk0c5_3_0), .val (.ref bk0c5_5_0), .val (.double (own_v0c5_1 p0c5_3)), .second, .unset, .unset, .unset, .unset] [(.ref bn0c5_7)])) _
    refine XS.astore Xk0c5_9.here hx rfl (hb hby at_56) rfl rfl (l' := #[.val (.int p0c5_0), .val (.int p0c5_1), .val (.int p0c5_2), .val (.int p0c5_3), .val (.int (5 : Int32)), .val (.ref bk0c5_1_0), .val (.ref bk0c5_3_0), .val (.ref bk0c5_5_0), .val (.double (own_v0c5_1 p0c5_3)), .second, .val (.ref bn0c5_7), .unset, .unset, .unset]) rfl ?_
    refine XS.aload Xk0c5_9.here hx rfl (hb hby at_58) rfl rfl ?_
    refine stk0c5_11.trans ?_
    show Steps p.tables e below (Tk0c5_11.setTop (mkF m 63 #[.val (.int p0c5_0), .val (.int p0c5_1), .val (.int p0c5_2), .val (.int p0c5_3), .val (.int (5 : Int32)), .val (.ref bk0c5_1_0), .val (.ref bk0c5_3_0), .val (.ref bk0c5_5_0), .val (.double (own_v0c5_1 p0c5_3)), .second, .val (.ref bn0c5_7), .unset, .unset, .unset] [(.int (own_rrc5_5 (nar .boolean (own_vruns5_0 p0c5_1)) (nar .boolean (own_vruns5_1 p0c5_1)) (nar .boolean (own_vruns5_2 p0c5_1)) (nar .boolean (own_vruns5_3 p0c5_1)) (nar .boolean (own_vruns5_4 p0c5_1))))])) _
    refine XS.istore Xk0c5_11.here hx rfl (hb hby at_63) rfl (l' := #[.val (.int p0c5_0), .val (.int p0c5_1), .val (.int p0c5_2), .val (.int p0c5_3), .val (.int (5 : Int32)), .val (.ref bk0c5_1_0), .val (.ref bk0c5_3_0), .val (.ref bk0c5_5_0), .val (.double (own_v0c5_1 p0c5_3)), .second, .val (.ref bn0c5_7), .val (.int (own_v0c5_2 p0c5_1)), .unset, .unset]) rfl ?_
    refine XS.iloadN Xk0c5_11.here hx rfl (hb hby at_65) rfl ?_
    refine XS.iconst Xk0c5_11.here hx rfl (hb hby at_66) ?_
    refine XS.iload Xk0c5_11.here hx rfl (hb hby at_67) rfl ?_
    refine XT.ishl Xk0c5_11.here hx rfl (hb hby at_69) rfl ?_
    refine XS.iconst Xk0c5_11.here hx rfl (hb hby at_70) ?_
    refine XS.isub Xk0c5_11.here hx rfl (hb hby at_71) rfl ?_
    refine XS.iand Xk0c5_11.here hx rfl (hb hby at_72) rfl ?_
    refine XS.istore Xk0c5_11.here hx rfl (hb hby at_73) rfl (l' := #[.val (.int p0c5_0), .val (.int p0c5_1), .val (.int p0c5_2), .val (.int p0c5_3), .val (.int (5 : Int32)), .val (.ref bk0c5_1_0), .val (.ref bk0c5_3_0), .val (.ref bk0c5_5_0), .val (.double (own_v0c5_1 p0c5_3)), .second, .val (.ref bn0c5_7), .val (.int (own_v0c5_2 p0c5_1)), .val (.int (own_v0c5_3 p0c5_1)), .unset]) rfl ?_
    refine XS.iload Xk0c5_11.here hx rfl (hb hby at_75) rfl ?_
    refine XS.iconst Xk0c5_11.here hx rfl (hb hby at_77) ?_
    refine XS.iand Xk0c5_11.here hx rfl (hb hby at_78) rfl ?_
    refine XS.iload Xk0c5_11.here hx rfl (hb hby at_79) rfl ?_
    refine XS.iconst Xk0c5_11.here hx rfl (hb hby at_81) ?_
    refine XT.ishr Xk0c5_11.here hx rfl (hb hby at_82) rfl ?_
    refine XS.iconst Xk0c5_11.here hx rfl (hb hby at_83) ?_
    refine XS.iand Xk0c5_11.here hx rfl (hb hby at_84) rfl ?_
    refine XS.iadd Xk0c5_11.here hx rfl (hb hby at_85) rfl ?_
    refine XS.iload Xk0c5_11.here hx rfl (hb hby at_86) rfl ?_
    refine XS.iconst Xk0c5_11.here hx rfl (hb hby at_88) ?_
    refine XT.ishr Xk0c5_11.here hx rfl (hb hby at_89) rfl ?_
    refine XS.iconst Xk0c5_11.here hx rfl (hb hby at_90) ?_
    refine XS.iand Xk0c5_11.here hx rfl (hb hby at_91) rfl ?_
    refine XS.iadd Xk0c5_11.here hx rfl (hb hby at_92) rfl ?_
    refine XS.iload Xk0c5_11.here hx rfl (hb hby at_93) rfl ?_
    refine XS.iconst Xk0c5_11.here hx rfl (hb hby at_95) ?_
    refine XT.ishr Xk0c5_11.here hx rfl (hb hby at_96) rfl ?_
    refine XS.iconst Xk0c5_11.here hx rfl (hb hby at_97) ?_
    refine XS.iand Xk0c5_11.here hx rfl (hb hby at_98) rfl ?_
    refine XS.iadd Xk0c5_11.here hx rfl (hb hby at_99) rfl ?_
    refine XS.iload Xk0c5_11.here hx rfl (hb hby at_100) rfl ?_
    refine XS.iconst Xk0c5_11.here hx rfl (hb hby at_102) ?_
    refine XT.ishr Xk0c5_11.here hx rfl (hb hby at_103) rfl ?_
    refine XS.iconst Xk0c5_11.here hx rfl (hb hby at_104) ?_
    refine XS.iand Xk0c5_11.here hx rfl (hb hby at_105) rfl ?_
    refine XS.iadd Xk0c5_11.here hx rfl (hb hby at_106) rfl ?_
    refine XS.iload Xk0c5_11.here hx rfl (hb hby at_107) rfl ?_
    refine XS.iconst Xk0c5_11.here hx rfl (hb hby at_109) ?_
    refine XT.ishr Xk0c5_11.here hx rfl (hb hby at_110) rfl ?_
    refine XS.iconst Xk0c5_11.here hx rfl (hb hby at_111) ?_
    refine XS.iand Xk0c5_11.here hx rfl (hb hby at_112) rfl ?_
    refine XS.iadd Xk0c5_11.here hx rfl (hb hby at_113) rfl ?_
    refine XS.istore Xk0c5_11.here hx rfl (hb hby at_114) rfl (l' := #[.val (.int p0c5_0), .val (.int p0c5_1), .val (.int p0c5_2), .val (.int p0c5_3), .val (.int (5 : Int32)), .val (.ref bk0c5_1_0), .val (.ref bk0c5_3_0), .val (.ref bk0c5_5_0), .val (.double (own_v0c5_1 p0c5_3)), .second, .val (.ref bn0c5_7), .val (.int (own_v0c5_2 p0c5_1)), .val (.int (own_v0c5_3 p0c5_1)), .val (.int (own_v0c5_4 p0c5_1))]) rfl ?_
    refine XS.iload Xk0c5_11.here hx rfl (hb hby at_116) rfl ?_
    refine XS.iload Xk0c5_11.here hx rfl (hb hby at_118) rfl ?_
    refine XS.icmpNo Xk0c5_11.here hx rfl (hb hby at_120) rfl (XT.ii_ne_f hc120) ?_
    refine XS.iconst Xk0c5_11.here hx rfl (hb hby at_123) ?_
    refine XS.goto Xk0c5_11.here hx rfl (pc0 := 124) (pc' := 128) rfl (hb hby at_124) (by decide) (by decide) ?_
    show Steps p.tables e below (Tk0c5_11.setTop (mkF m 128 #[.val (.int p0c5_0), .val (.int p0c5_1), .val (.int p0c5_2), .val (.int p0c5_3), .val (.int (5 : Int32)), .val (.ref bk0c5_1_0), .val (.ref bk0c5_3_0), .val (.ref bk0c5_5_0), .val (.double (own_v0c5_1 p0c5_3)), .second, .val (.ref bn0c5_7), .val (.int (own_v0c5_2 p0c5_1)), .val (.int (own_v0c5_3 p0c5_1)), .val (.int (own_v0c5_4 p0c5_1))] [(.int (1 : Int32))])) _
    exact retN Xk0c5_11 hx (t := .boolean) Bd.returns (by simp) (hb hby at_128) hr
  · show own_Q0c5 Z p0c5_0 p0c5_1 p0c5_2 p0c5_3 h0 n0 _ Tk0c5_11.heap _
    rw [ek0c5_11]
    exact ⟨rfl, Nk0c5_11⟩
def own_v0c6_0 (p0c6_0 : Int32) : Int32 := ((p0c6_0 &&& (2147483647 : Int32)) - ((p0c6_0 &&& (2147483647 : Int32)) / (7 : Int32)) * (7 : Int32))
def own_v0c6_1 (p0c6_3 : Int32) : UInt64 := (FP.i2d (p0c6_3 &&& (255 : Int32)))
def own_v0c6_2 (p0c6_1 : Int32) : Int32 := (own_rrc6_6 (nar .boolean (own_vruns6_0 p0c6_1)) (nar .boolean (own_vruns6_1 p0c6_1)) (nar .boolean (own_vruns6_2 p0c6_1)) (nar .boolean (own_vruns6_3 p0c6_1)) (nar .boolean (own_vruns6_4 p0c6_1)) (nar .boolean (own_vruns6_5 p0c6_1)))
def own_v0c6_3 (p0c6_1 : Int32) : Int32 := (p0c6_1 &&& (((1 : Int32) <<< ((6 : Int32) &&& 31)) - (1 : Int32)))
def own_v0c6_4 (p0c6_1 : Int32) : Int32 := (((((((own_v0c6_3 p0c6_1) &&& (1 : Int32)) + (((own_v0c6_3 p0c6_1) >>> ((1 : Int32) &&& 31)) &&& (1 : Int32))) + (((own_v0c6_3 p0c6_1) >>> ((2 : Int32) &&& 31)) &&& (1 : Int32))) + (((own_v0c6_3 p0c6_1) >>> ((3 : Int32) &&& 31)) &&& (1 : Int32))) + (((own_v0c6_3 p0c6_1) >>> ((4 : Int32) &&& 31)) &&& (1 : Int32))) + (((own_v0c6_3 p0c6_1) >>> ((5 : Int32) &&& 31)) &&& (1 : Int32)))
theorem own_ef0c6 (m : MethodId) (p0c6_0 : Int32) (p0c6_1 : Int32) (p0c6_2 : Int32) (p0c6_3 : Int32) : entryFrame m #[(.int p0c6_0), (.int p0c6_1), (.int p0c6_2), (.int p0c6_3)] maxLocals = mkF m 0 #[.val (.int p0c6_0), .val (.int p0c6_1), .val (.int p0c6_2), .val (.int p0c6_3), .unset, .unset, .unset, .unset, .unset, .unset, .unset, .unset, .unset, .unset] [] := by first | (simp [entryFrame, mkF, argsToLocals, Value.category, maxLocals]; done) | rfl
def own_Q0c6 (Z : State) (p0c6_0 : Int32) (p0c6_1 : Int32) (p0c6_2 : Int32) (p0c6_3 : Int32) (h0 : Heap) (n0 : Nat) (v : Option Value) (h : Heap) (L : List Loc) : Prop := v = some (.int (1 : Int32)) ∧ Fr n0 L
set_option maxRecDepth 65536 in
set_option maxHeartbeats 40000000 in
theorem own_rm0c6 (l : Launch) (Z : State) (a0 : Array Value) (hw : ∀ d ∈ tables_1, d.before a0 Z = true) (ws : List Jvm.Cond) (p0c6_0 : Int32) (p0c6_1 : Int32) (p0c6_2 : Int32) (p0c6_3 : Int32) (h0 : Heap) (n0 : Nat) (Z0 : n0 ≤ h0.size) (fx7 : (own_v0c6_0 p0c6_0) = (6 : Int32)) (hc120 : (own_v0c6_2 p0c6_1) = (own_v0c6_4 p0c6_1)) :
    MetFree l x (head1 (Jvm.Cond.code x code maxLocals ret :: ws) room_1) (fun a U => a = #[(.int p0c6_0), (.int p0c6_1), (.int p0c6_2), (.int p0c6_3)] ∧ Z.Warmed39 U.vm ∧ U.heap = h0) (fun _ _ _ _ _ => True) (fun _ U o U' => ∃ v L, o = .returned v ∧ own_Q0c6 Z p0c6_0 p0c6_1 p0c6_2 p0c6_3 h0 n0 v U'.heap L ∧ FrameEnd U o U' L room_1.cells room_1.slots) := by
  refine MetFree.of_bodySF (plainFor_of_name own_pn0) hisR ?_
  intro p e s m args below meth c s₁ Bd hml0 hP hK
  obtain ⟨rfl, hZ, hh⟩ := hP
  have hx := Bd.exec
  have hby := Bd.bytes
  have hml : c.maxLocals = 14 := hml0
  have hown : s.vm.findClass "com/example/arborway/arborway/sim/WalkRunningCountPinLaw" = some m.cls := findClass_of_methodNamed Bd.named
  have hnm := (name_of_methodNamed Bd.named Bd.method).1
  have X0 : Stand p l e room_1 s m #[(.int p0c6_0), (.int p0c6_1), (.int p0c6_2), (.int p0c6_3)] below meth c s₁ [] 0 0 := Stand.of_body Bd
  have e0 : s₁.heap = h0 := by rw [← hh, Bd.state]; rfl
  have N0 := Fr.nil n0
  have Zr : h0.size ≤ h0.size := Nat.le_refl _
  have pre0 : ∀ t, Steps p.tables e below (s₁.setTop (mkF m 0 #[.val (.int p0c6_0), .val (.int p0c6_1), .val (.int p0c6_2), .val (.int p0c6_3), .unset, .unset, .unset, .unset, .unset, .unset, .unset, .unset, .unset, .unset] [])) t → Steps p.tables e below (s₁.setTop (entryFrame m #[(.int p0c6_0), (.int p0c6_1), (.int p0c6_2), (.int p0c6_3)] maxLocals)) t := fun t k => castTop (own_ef0c6 m p0c6_0 p0c6_1 p0c6_2 p0c6_3) k
  obtain ⟨_, _, ⟨Tk0c6_1, Lk0c6_1, kk0c6_1, nk0c6_1⟩, -, Xk0c6_1, ⟨Lck0c6_1, hQk0c6_1, lk0c6_1, yk0c6_1, zk0c6_1⟩, stk0c6_1⟩ := Jvm.LawKit.callS X0 hx (y := (⟨"com/example/arborway/arborway/sim/WalkRunningCountPinLaw", "runs", "(II)[Z"⟩ : MethodName)) hown (mvT hZ (own_W hw 1 rfl)) (mvT hZ (own_W hw 2 rfl)) (mvT hZ (own_W hw 3 rfl)) (mvT hZ (own_W hw 4 rfl)) (by decide) (backOf (W := 0) (own_rmruns6 l Z a0 hw [] p0c6_1 h0 n0 Z0) hZ (own_W hw 4 rfl) (own_W hw 3 rfl) (by decide) (by decide)) (g := (mkF m 12 #[.val (.int p0c6_0), .val (.int p0c6_1), .val (.int p0c6_2), .val (.int p0c6_3), .val (.int (6 : Int32)), .unset, .unset, .unset, .unset, .unset, .unset, .unset, .unset, .unset] [(.int p0c6_1), (.int (6 : Int32))])) rfl (by rw [hml]; rfl) (argsL := [(.int (6 : Int32)), (.int p0c6_1)]) (rest := []) (lenOf own_pd4 rfl) rfl (by show 2 * 0 + _ ≤ _; exact Nat.le_of_eq rfl) (hb hby at_12) (fun _ _ => ⟨rfl, e0, (by decide : 0 + 1 ≤ _), (by decide : 0 + 6 ≤ _)⟩)
  dsimp only [Pt.U, Pt.locs, Pt.cells, Pt.slots] at Xk0c6_1 lk0c6_1 yk0c6_1 zk0c6_1 stk0c6_1 hQk0c6_1
  replace lk0c6_1 := lk0c6_1.symm; replace yk0c6_1 := yk0c6_1.symm; replace zk0c6_1 := zk0c6_1.symm; subst lk0c6_1 yk0c6_1 zk0c6_1
  obtain ⟨bk0c6_1_0, kk0c6_1_1, rfl, Nk0c6_1q, Kk0c6_1, lebk0c6_1_0, Qk0c6_1_0⟩ := hQk0c6_1
  have g_bk0c6_1_0 : n0 ≤ bk0c6_1_0 := Nat.le_trans Z0 lebk0c6_1_0
  have sz_bk0c6_1_0 : h0.size ≤ bk0c6_1_0 := Nat.le_trans Zr lebk0c6_1_0
  have sz0c6_2 : h0.size ≤ Tk0c6_1.heap.size := Nat.le_trans Zr Kk0c6_1.1
  have Nk0c6_1 := Fr.app N0 Nk0c6_1q
  obtain ⟨_, _, ⟨Tk0c6_3, Lk0c6_3, kk0c6_3, nk0c6_3⟩, -, Xk0c6_3, ⟨Lck0c6_3, hQk0c6_3, lk0c6_3, yk0c6_3, zk0c6_3⟩, stk0c6_3⟩ := Jvm.LawKit.callS Xk0c6_1 hx (y := (⟨"com/example/arborway/arborway/sim/WalkRunningCountPinLaw", "depths", "(II)[I"⟩ : MethodName)) hown (mvT hZ (own_W hw 9 rfl)) (mvT hZ (own_W hw 10 rfl)) (mvT hZ (own_W hw 3 rfl)) (mvT hZ (own_W hw 11 rfl)) (by decide) (backOf (W := 0) (own_rmdepths6 l Z a0 hw [] p0c6_2 Tk0c6_1.heap n0 (Nat.le_trans Z0 sz0c6_2)) hZ (own_W hw 11 rfl) (own_W hw 3 rfl) (by decide) (by decide)) (g := (mkF m 20 #[.val (.int p0c6_0), .val (.int p0c6_1), .val (.int p0c6_2), .val (.int p0c6_3), .val (.int (6 : Int32)), .val (.ref bk0c6_1_0), .unset, .unset, .unset, .unset, .unset, .unset, .unset, .unset] [(.int p0c6_2), (.int (6 : Int32))])) rfl (by rw [hml]; rfl) (argsL := [(.int (6 : Int32)), (.int p0c6_2)]) (rest := []) (lenOf own_pd5 rfl) rfl (by show 2 * 0 + _ ≤ _; exact Nat.le_of_eq rfl) (hb hby at_20) (fun _ _ => ⟨rfl, rfl, (by decide : 1 + 1 ≤ _), (by decide : 6 + 6 ≤ _)⟩)
  dsimp only [Pt.U, Pt.locs, Pt.cells, Pt.slots] at Xk0c6_3 lk0c6_3 yk0c6_3 zk0c6_3 stk0c6_3 hQk0c6_3
  replace lk0c6_3 := lk0c6_3.symm; replace yk0c6_3 := yk0c6_3.symm; replace zk0c6_3 := zk0c6_3.symm; subst lk0c6_3 yk0c6_3 zk0c6_3
  obtain ⟨bk0c6_3_0, kk0c6_3_1, rfl, Nk0c6_3q, Kk0c6_3, lebk0c6_3_0, Qk0c6_3_0⟩ := hQk0c6_3
  have g_bk0c6_3_0 : n0 ≤ bk0c6_3_0 := Nat.le_trans (Nat.le_trans Z0 sz0c6_2) lebk0c6_3_0
  have sz_bk0c6_3_0 : h0.size ≤ bk0c6_3_0 := Nat.le_trans sz0c6_2 lebk0c6_3_0
  have sz0c6_4 : h0.size ≤ Tk0c6_3.heap.size := Nat.le_trans sz0c6_2 Kk0c6_3.1
  have Nk0c6_3 := Fr.app Nk0c6_1 Nk0c6_3q
  obtain ⟨_, _, ⟨Tk0c6_5, Lk0c6_5, kk0c6_5, nk0c6_5⟩, -, Xk0c6_5, ⟨Lck0c6_5, hQk0c6_5, lk0c6_5, yk0c6_5, zk0c6_5⟩, stk0c6_5⟩ := Jvm.LawKit.callS Xk0c6_3 hx (y := (⟨"com/example/arborway/arborway/sim/WalkRunningCountPinLaw", "delays", "(II)[D"⟩ : MethodName)) hown (mvT hZ (own_W hw 13 rfl)) (mvT hZ (own_W hw 14 rfl)) (mvT hZ (own_W hw 3 rfl)) (mvT hZ (own_W hw 15 rfl)) (by decide) (backOf (W := 0) (own_rmdelays6 l Z a0 hw [] p0c6_2 Tk0c6_3.heap n0 (Nat.le_trans Z0 sz0c6_4)) hZ (own_W hw 15 rfl) (own_W hw 3 rfl) (by decide) (by decide)) (g := (mkF m 28 #[.val (.int p0c6_0), .val (.int p0c6_1), .val (.int p0c6_2), .val (.int p0c6_3), .val (.int (6 : Int32)), .val (.ref bk0c6_1_0), .val (.ref bk0c6_3_0), .unset, .unset, .unset, .unset, .unset, .unset, .unset] [(.int p0c6_2), (.int (6 : Int32))])) rfl (by rw [hml]; rfl) (argsL := [(.int (6 : Int32)), (.int p0c6_2)]) (rest := []) (lenOf own_pd6 rfl) rfl (by show 2 * 0 + _ ≤ _; exact Nat.le_of_eq rfl) (hb hby at_28) (fun _ _ => ⟨rfl, rfl, (by decide : 2 + 1 ≤ _), (by decide : 12 + 6 ≤ _)⟩)
  dsimp only [Pt.U, Pt.locs, Pt.cells, Pt.slots] at Xk0c6_5 lk0c6_5 yk0c6_5 zk0c6_5 stk0c6_5 hQk0c6_5
  replace lk0c6_5 := lk0c6_5.symm; replace yk0c6_5 := yk0c6_5.symm; replace zk0c6_5 := zk0c6_5.symm; subst lk0c6_5 yk0c6_5 zk0c6_5
  obtain ⟨bk0c6_5_0, kk0c6_5_1, rfl, Nk0c6_5q, Kk0c6_5, lebk0c6_5_0, Qk0c6_5_0⟩ := hQk0c6_5
  have g_bk0c6_5_0 : n0 ≤ bk0c6_5_0 := Nat.le_trans (Nat.le_trans Z0 sz0c6_4) lebk0c6_5_0
  have sz_bk0c6_5_0 : h0.size ≤ bk0c6_5_0 := Nat.le_trans sz0c6_4 lebk0c6_5_0
  have sz0c6_6 : h0.size ≤ Tk0c6_5.heap.size := Nat.le_trans sz0c6_4 Kk0c6_5.1
  have Nk0c6_5 := Fr.app Nk0c6_3 Nk0c6_5q
  obtain ⟨Tn0c6_7, hn0c6_7, Xn0c6_7, en0c6_7, En0c6_7, An0c6_7, Dn0c6_7, -, stn0c6_7⟩ := newO Xk0c6_5 hx hZ hown (own_W hw 17 rfl) (own_W hw 18 rfl) (own_W hw 19 rfl) rfl (g := (mkF m 41 #[.val (.int p0c6_0), .val (.int p0c6_1), .val (.int p0c6_2), .val (.int p0c6_3), .val (.int (6 : Int32)), .val (.ref bk0c6_1_0), .val (.ref bk0c6_3_0), .val (.ref bk0c6_5_0), .val (.double (own_v0c6_1 p0c6_3)), .second, .unset, .unset, .unset, .unset] [])) rfl (hb hby at_41) (by decide) (by decide)
  obtain ⟨bn0c6_7, gn0c6_7⟩ : ∃ z, z = Tk0c6_5.heap.size := ⟨_, rfl⟩
  rw [← gn0c6_7] at An0c6_7 Dn0c6_7 stn0c6_7
  have g_bn0c6_7 : n0 ≤ bn0c6_7 := Nat.le_trans (Nat.le_trans Z0 sz0c6_6) (Nat.le_of_eq gn0c6_7.symm)
  have sz_bn0c6_7 : h0.size ≤ bn0c6_7 := Nat.le_trans sz0c6_6 (Nat.le_of_eq gn0c6_7.symm)
  have sz0c6_8 : h0.size ≤ hn0c6_7.size := Nat.le_trans sz0c6_6 En0c6_7.1
  have F_depth_bn0c6_7 : Fld Z hn0c6_7 bn0c6_7 "com/example/arborway/arborway/sim/RunTally$Walk" "depth" "[I" .null := Dn0c6_7 (Or.inr (own_W hw 32 rfl)) (ty := (.array .int)) (by decide)
  have F_rootDelayMs_bn0c6_7 : Fld Z hn0c6_7 bn0c6_7 "com/example/arborway/arborway/sim/RunTally$Walk" "rootDelayMs" "[D" .null := Dn0c6_7 (Or.inr (own_W hw 34 rfl)) (ty := (.array .double)) (by decide)
  have F_running_bn0c6_7 : Fld Z hn0c6_7 bn0c6_7 "com/example/arborway/arborway/sim/RunTally$Walk" "running" "[Z" .null := Dn0c6_7 (Or.inr (own_W hw 36 rfl)) (ty := (.array .boolean)) (by decide)
  have F_costMs_bn0c6_7 : Fld Z hn0c6_7 bn0c6_7 "com/example/arborway/arborway/sim/RunTally$Walk" "costMs" "D" (.double (0 : UInt64)) := Dn0c6_7 (Or.inr (own_W hw 38 rfl)) (ty := .double) (by decide)
  obtain ⟨_, _, ⟨Tk0c6_9, Lk0c6_9, kk0c6_9, nk0c6_9⟩, -, Xk0c6_9, ⟨Lck0c6_9, hQk0c6_9, lk0c6_9, yk0c6_9, zk0c6_9⟩, stk0c6_9⟩ := Xn0c6_7.specialBack hx (y := (⟨"com/example/arborway/arborway/sim/RunTally$Walk", "<init>", "([I[D[ZD)V"⟩ : MethodName)) rfl hown (mvT hZ (own_W hw 20 rfl)) (mvT hZ (own_W hw 21 rfl)) (mvT hZ (own_W hw 22 rfl)) (by decide) (backOf (W := 1) (own_rm5 l Z a0 hw [] bn0c6_7 bk0c6_3_0 bk0c6_5_0 bk0c6_1_0 (own_v0c6_1 p0c6_3) .null .null .null (.double (0 : UInt64)) hn0c6_7 n0 (Nat.le_trans Z0 sz0c6_8) An0c6_7 F_depth_bn0c6_7 g_bn0c6_7 F_rootDelayMs_bn0c6_7 F_running_bn0c6_7 F_costMs_bn0c6_7) hZ (own_W hw 22 rfl) (own_W hw 19 rfl) (by decide) (by decide)) (g := (mkF m 53 #[.val (.int p0c6_0), .val (.int p0c6_1), .val (.int p0c6_2), .val (.int p0c6_3), .val (.int (6 : Int32)), .val (.ref bk0c6_1_0), .val (.ref bk0c6_3_0), .val (.ref bk0c6_5_0), .val (.double (own_v0c6_1 p0c6_3)), .second, .unset, .unset, .unset, .unset] [(.double (own_v0c6_1 p0c6_3)), (.ref bk0c6_1_0), (.ref bk0c6_5_0), (.ref bk0c6_3_0), (.ref bn0c6_7), (.ref bn0c6_7)])) rfl (by rw [hml]; rfl) (Steps.refl _) (a := bn0c6_7) (argsL := [(.ref bk0c6_3_0), (.ref bk0c6_5_0), (.ref bk0c6_1_0), (.double (own_v0c6_1 p0c6_3))]) (rest := [(.ref bn0c6_7)]) (lenOf own_pd7 rfl) rfl (by show 2 * 0 + _ ≤ _; exact Nat.le_of_eq rfl) (hb hby at_53) (fun _ _ => ⟨rfl, en0c6_7, (by decide : 4 + 0 ≤ _), (by decide : 22 + 0 ≤ _)⟩)
  dsimp only [Pt.U, Pt.locs, Pt.cells, Pt.slots] at Xk0c6_9 lk0c6_9 yk0c6_9 zk0c6_9 stk0c6_9 hQk0c6_9
  replace lk0c6_9 := lk0c6_9.symm; replace yk0c6_9 := yk0c6_9.symm; replace zk0c6_9 := zk0c6_9.symm; subst lk0c6_9 yk0c6_9 zk0c6_9
  obtain ⟨rfl, Nk0c6_9q, Kk0c6_9, Qk0c6_9_0, Qk0c6_9_1, Qk0c6_9_2, Qk0c6_9_3, Qk0c6_9_4⟩ := hQk0c6_9
  have sz0c6_10 : h0.size ≤ Tk0c6_9.heap.size := Nat.le_trans sz0c6_8 Kk0c6_9.1
  have Nk0c6_9 := Fr.app Nk0c6_5 Nk0c6_9q
  have ne0c6_12 : bk0c6_1_0 ≠ bn0c6_7 := (Nat.ne_of_lt (Nat.lt_of_lt_of_le ((Qk0c6_1_0.keep Kk0c6_3 nin0).keep Kk0c6_5 nin0).lt (Nat.le_of_eq gn0c6_7.symm)))
  have F0c6_13 := ((((Qk0c6_1_0.keep Kk0c6_3 nin0).keep Kk0c6_5 nin0).ext En0c6_7).keep Kk0c6_9 (ninS ne0c6_12 nin0))
  obtain ⟨cqk0c6_11, kqk0c6_11, qk0c6_11a, qk0c6_11b, qk0c6_11c⟩ := isOf hZ rfl Qk0c6_9_0
  obtain ⟨_, _, ⟨Tk0c6_11, Lk0c6_11, kk0c6_11, nk0c6_11⟩, -, Xk0c6_11, ⟨Lck0c6_11, hQk0c6_11, lk0c6_11, yk0c6_11, zk0c6_11⟩, stk0c6_11⟩ := Xk0c6_9.virtualBack hx (y := (⟨"com/example/arborway/arborway/sim/RunTally$Walk", "runningCount", "()I"⟩ : MethodName)) (z := (⟨"com/example/arborway/arborway/sim/RunTally$Walk", "runningCount", "()I"⟩ : MethodName)) hown (mvT hZ (own_W hw 39 rfl)) (mvT hZ (own_W hw 40 rfl)) (notFace_of_selects (args := #[]) (mvT hZ (own_W hw 42 rfl))) (mvT hZ (own_W hw 42 rfl)) (mvT hZ (own_W hw 41 rfl)) (by decide) (backOf (W := 0) (own_rmrc6 l Z a0 hw [] bn0c6_7 bk0c6_1_0 kk0c6_1_1 (nar .boolean (own_vruns6_0 p0c6_1)) (nar .boolean (own_vruns6_1 p0c6_1)) (nar .boolean (own_vruns6_2 p0c6_1)) (nar .boolean (own_vruns6_3 p0c6_1)) (nar .boolean (own_vruns6_4 p0c6_1)) (nar .boolean (own_vruns6_5 p0c6_1)) Tk0c6_9.heap n0 (Nat.le_trans Z0 sz0c6_10) Qk0c6_9_3 F0c6_13) hZ (own_W hw 43 rfl) (own_W hw 19 rfl) (by decide) (by decide)) qk0c6_11a qk0c6_11c (g := (mkF m 60 #[.val (.int p0c6_0), .val (.int p0c6_1), .val (.int p0c6_2), .val (.int p0c6_3), .val (.int (6 : Int32)), .val (.ref bk0c6_1_0), .val (.ref bk0c6_3_0), .val (.ref bk0c6_5_0), .val (.double (own_v0c6_1 p0c6_3)), .second, .val (.ref bn0c6_7), .unset, .unset, .unset] [(.ref bn0c6_7)])) rfl (by rw [hml]; rfl) (Steps.refl _) (argsL := []) (rest := []) (lenOf own_pd8 rfl) rfl (by show 2 * 0 + _ ≤ _; exact Nat.le_of_eq rfl) (hb hby at_60) (fun _ _ => ⟨rfl, rfl, (by decide : 4 + 0 ≤ _), (by decide : 22 + 0 ≤ _)⟩)
  dsimp only [Pt.U, Pt.locs, Pt.cells, Pt.slots] at Xk0c6_11 lk0c6_11 yk0c6_11 zk0c6_11 stk0c6_11 hQk0c6_11
  replace lk0c6_11 := lk0c6_11.symm; replace yk0c6_11 := yk0c6_11.symm; replace zk0c6_11 := zk0c6_11.symm; subst lk0c6_11 yk0c6_11 zk0c6_11
  obtain ⟨rfl, Nk0c6_11q, ek0c6_11⟩ := hQk0c6_11
  have Nk0c6_11 := Fr.app Nk0c6_9 Nk0c6_11q
  obtain ⟨fs, hr, hrun, hended, hW, hsame⟩ := Xk0c6_11.leave (v := some (.int (1 : Int32))) (fun h => by rw [Bd.returns] at h; cases h)
  refine ⟨_, _, pre0 _ (?_), hrun, hended, _, _, rfl, ?_, ⟨_, rfl⟩, hW, hsame.mono (by decide) (by decide)⟩
  · show Steps p.tables e below (s₁.setTop (mkF m 0 #[.val (.int p0c6_0), .val (.int p0c6_1), .val (.int p0c6_2), .val (.int p0c6_3), .unset, .unset, .unset, .unset, .unset, .unset, .unset, .unset, .unset, .unset] [])) _
    refine XS.iloadN X0.here hx rfl (hb hby at_0) rfl ?_
    refine X0.ldcInt hx hown (mvT hZ (own_W hw 0 rfl)) (g := (mkF m 1 #[.val (.int p0c6_0), .val (.int p0c6_1), .val (.int p0c6_2), .val (.int p0c6_3), .unset, .unset, .unset, .unset, .unset, .unset, .unset, .unset, .unset, .unset] [(.int p0c6_0)])) rfl (hb hby at_1) _ ?_
    show Steps p.tables e below (s₁.setTop (mkF m 3 #[.val (.int p0c6_0), .val (.int p0c6_1), .val (.int p0c6_2), .val (.int p0c6_3), .unset, .unset, .unset, .unset, .unset, .unset, .unset, .unset, .unset, .unset] [(.int (2147483647 : Int32)), (.int p0c6_0)])) _
    refine XS.iand X0.here hx rfl (hb hby at_3) rfl ?_
    refine XS.bipush X0.here hx rfl (hb hby at_4) ?_
    refine XS.irem X0.here hx rfl (hb hby at_6) rfl (by decide) ?_
    refine XS.istore X0.here hx rfl (hb hby at_7) rfl (l' := #[.val (.int p0c6_0), .val (.int p0c6_1), .val (.int p0c6_2), .val (.int p0c6_3), .val (.int (own_v0c6_0 p0c6_0)), .unset, .unset, .unset, .unset, .unset, .unset, .unset, .unset, .unset]) rfl ?_
    rw [fx7]
    show Steps p.tables e below (s₁.setTop (mkF m 9 #[.val (.int p0c6_0), .val (.int p0c6_1), .val (.int p0c6_2), .val (.int p0c6_3), .val (.int (6 : Int32)), .unset, .unset, .unset, .unset, .unset, .unset, .unset, .unset, .unset] [])) _
    refine XS.iload X0.here hx rfl (hb hby at_9) rfl ?_
    refine XS.iloadN X0.here hx rfl (hb hby at_11) rfl ?_
    refine stk0c6_1 _ ?_
    show Steps p.tables e below (Tk0c6_1.setTop (mkF m 15 #[.val (.int p0c6_0), .val (.int p0c6_1), .val (.int p0c6_2), .val (.int p0c6_3), .val (.int (6 : Int32)), .unset, .unset, .unset, .unset, .unset, .unset, .unset, .unset, .unset] [(.ref bk0c6_1_0)])) _
    refine XS.astore Xk0c6_1.here hx rfl (hb hby at_15) rfl rfl (l' := #[.val (.int p0c6_0), .val (.int p0c6_1), .val (.int p0c6_2), .val (.int p0c6_3), .val (.int (6 : Int32)), .val (.ref bk0c6_1_0), .unset, .unset, .unset, .unset, .unset, .unset, .unset, .unset]) rfl ?_
    refine XS.iload Xk0c6_1.here hx rfl (hb hby at_17) rfl ?_
    refine XS.iloadN Xk0c6_1.here hx rfl (hb hby at_19) rfl ?_
    refine stk0c6_3 _ ?_
    show Steps p.tables e below (Tk0c6_3.setTop (mkF m 23 #[.val (.int p0c6_0), .val (.int p0c6_1), .val (.int p0c6_2), .val (.int p0c6_3), .val (.int (6 : Int32)), .val (.ref bk0c6_1_0), .unset, .unset, .unset, .unset, .unset, .unset, .unset, .unset] [(.ref bk0c6_3_0)])) _
    refine XS.astore Xk0c6_3.here hx rfl (hb hby at_23) rfl rfl (l' := #[.val (.int p0c6_0), .val (.int p0c6_1), .val (.int p0c6_2), .val (.int p0c6_3), .val (.int (6 : Int32)), .val (.ref bk0c6_1_0), .val (.ref bk0c6_3_0), .unset, .unset, .unset, .unset, .unset, .unset, .unset]) rfl ?_
    refine XS.iload Xk0c6_3.here hx rfl (hb hby at_25) rfl ?_
    refine XS.iloadN Xk0c6_3.here hx rfl (hb hby at_27) rfl ?_
    refine stk0c6_5 _ ?_
    show Steps p.tables e below (Tk0c6_5.setTop (mkF m 31 #[.val (.int p0c6_0), .val (.int p0c6_1), .val (.int p0c6_2), .val (.int p0c6_3), .val (.int (6 : Int32)), .val (.ref bk0c6_1_0), .val (.ref bk0c6_3_0), .unset, .unset, .unset, .unset, .unset, .unset, .unset] [(.ref bk0c6_5_0)])) _
    refine XS.astore Xk0c6_5.here hx rfl (hb hby at_31) rfl rfl (l' := #[.val (.int p0c6_0), .val (.int p0c6_1), .val (.int p0c6_2), .val (.int p0c6_3), .val (.int (6 : Int32)), .val (.ref bk0c6_1_0), .val (.ref bk0c6_3_0), .val (.ref bk0c6_5_0), .unset, .unset, .unset, .unset, .unset, .unset]) rfl ?_
    refine XS.iloadN Xk0c6_5.here hx rfl (hb hby at_33) rfl ?_
    refine XS.sipush Xk0c6_5.here hx rfl (hb hby at_34) ?_
    refine XS.iand Xk0c6_5.here hx rfl (hb hby at_37) rfl ?_
    refine XS.i2dS Xk0c6_5.here hx rfl (hb hby at_38) rfl rfl ?_
    refine XS.dstore Xk0c6_5.here hx rfl (hb hby at_39) rfl (l' := #[.val (.int p0c6_0), .val (.int p0c6_1), .val (.int p0c6_2), .val (.int p0c6_3), .val (.int (6 : Int32)), .val (.ref bk0c6_1_0), .val (.ref bk0c6_3_0), .val (.ref bk0c6_5_0), .val (.double (own_v0c6_1 p0c6_3)), .second, .unset, .unset, .unset, .unset]) rfl ?_
    refine stn0c6_7 _ ?_
    show Steps p.tables e below (Tn0c6_7.setTop (mkF m 44 #[.val (.int p0c6_0), .val (.int p0c6_1), .val (.int p0c6_2), .val (.int p0c6_3), .val (.int (6 : Int32)), .val (.ref bk0c6_1_0), .val (.ref bk0c6_3_0), .val (.ref bk0c6_5_0), .val (.double (own_v0c6_1 p0c6_3)), .second, .unset, .unset, .unset, .unset] [(.ref bn0c6_7)])) _
    refine XS.dup Xn0c6_7.here hx rfl (hb hby at_44) rfl rfl ?_
    refine XS.aload Xn0c6_7.here hx rfl (hb hby at_45) rfl rfl ?_
    refine XS.aload Xn0c6_7.here hx rfl (hb hby at_47) rfl rfl ?_
    refine XS.aload Xn0c6_7.here hx rfl (hb hby at_49) rfl rfl ?_
    refine XS.dload Xn0c6_7.here hx rfl (hb hby at_51) rfl ?_
    refine stk0c6_9.trans ?_
    show Steps p.tables e below (Tk0c6_9.setTop (mkF m 56 #[.val (.int p0c6_0), .val (.int p0c6_1), .val (.int p0c6_2), .val (.int p0c6_3), .val (.int (6 : Int32)), .val (.ref bk0c6_1_0), .val (.ref bk0c6_3_0), .val (.ref bk0c6_5_0), .val (.double (own_v0c6_1 p0c6_3)), .second, .unset, .unset, .unset, .unset] [(.ref bn0c6_7)])) _
    refine XS.astore Xk0c6_9.here hx rfl (hb hby at_56) rfl rfl (l' := #[.val (.int p0c6_0), .val (.int p0c6_1), .val (.int p0c6_2), .val (.int p0c6_3), .val (.int (6 : Int32)), .val (.ref bk0c6_1_0), .val (.ref bk0c6_3_0), .val (.ref bk0c6_5_0), .val (.double (own_v0c6_1 p0c6_3)), .second, .val (.ref bn0c6_7), .unset, .unset, .unset]) rfl ?_
    refine XS.aload Xk0c6_9.here hx rfl (hb hby at_58) rfl rfl ?_
    refine stk0c6_11.trans ?_
    show Steps p.tables e below (Tk0c6_11.setTop (mkF m 63 #[.val (.int p0c6_0), .val (.int p0c6_1), .val (.int p0c6_2), .val (.int p0c6_3), .val (.int (6 : Int32)), .val (.ref bk0c6_1_0), .val (.ref bk0c6_3_0), .val (.ref bk0c6_5_0), .val (.double (own_v0c6_1 p0c6_3)), .second, .val (.ref bn0c6_7), .unset, .unset, .unset] [(.int (own_rrc6_6 (nar .boolean (own_vruns6_0 p0c6_1)) (nar .boolean (own_vruns6_1 p0c6_1)) (nar .boolean (own_vruns6_2 p0c6_1)) (nar .boolean (own_vruns6_3 p0c6_1)) (nar .boolean (own_vruns6_4 p0c6_1)) (nar .boolean (own_vruns6_5 p0c6_1))))])) _
    refine XS.istore Xk0c6_11.here hx rfl (hb hby at_63) rfl (l' := #[.val (.int p0c6_0), .val (.int p0c6_1), .val (.int p0c6_2), .val (.int p0c6_3), .val (.int (6 : Int32)), .val (.ref bk0c6_1_0), .val (.ref bk0c6_3_0), .val (.ref bk0c6_5_0), .val (.double (own_v0c6_1 p0c6_3)), .second, .val (.ref bn0c6_7), .val (.int (own_v0c6_2 p0c6_1)), .unset, .unset]) rfl ?_
    refine XS.iloadN Xk0c6_11.here hx rfl (hb hby at_65) rfl ?_
    refine XS.iconst Xk0c6_11.here hx rfl (hb hby at_66) ?_
    refine XS.iload Xk0c6_11.here hx rfl (hb hby at_67) rfl ?_
    refine XT.ishl Xk0c6_11.here hx rfl (hb hby at_69) rfl ?_
    refine XS.iconst Xk0c6_11.here hx rfl (hb hby at_70) ?_
    refine XS.isub Xk0c6_11.here hx rfl (hb hby at_71) rfl ?_
    refine XS.iand Xk0c6_11.here hx rfl (hb hby at_72) rfl ?_
    refine XS.istore Xk0c6_11.here hx rfl (hb hby at_73) rfl (l' := #[.val (.int p0c6_0), .val (.int p0c6_1), .val (.int p0c6_2), .val (.int p0c6_3), .val (.int (6 : Int32)), .val (.ref bk0c6_1_0), .val (.ref bk0c6_3_0), .val (.ref bk0c6_5_0), .val (.double (own_v0c6_1 p0c6_3)), .second, .val (.ref bn0c6_7), .val (.int (own_v0c6_2 p0c6_1)), .val (.int (own_v0c6_3 p0c6_1)), .unset]) rfl ?_
    refine XS.iload Xk0c6_11.here hx rfl (hb hby at_75) rfl ?_
    refine XS.iconst Xk0c6_11.here hx rfl (hb hby at_77) ?_
    refine XS.iand Xk0c6_11.here hx rfl (hb hby at_78) rfl ?_
    refine XS.iload Xk0c6_11.here hx rfl (hb hby at_79) rfl ?_
    refine XS.iconst Xk0c6_11.here hx rfl (hb hby at_81) ?_
    refine XT.ishr Xk0c6_11.here hx rfl (hb hby at_82) rfl ?_
    refine XS.iconst Xk0c6_11.here hx rfl (hb hby at_83) ?_
    refine XS.iand Xk0c6_11.here hx rfl (hb hby at_84) rfl ?_
    refine XS.iadd Xk0c6_11.here hx rfl (hb hby at_85) rfl ?_
    refine XS.iload Xk0c6_11.here hx rfl (hb hby at_86) rfl ?_
    refine XS.iconst Xk0c6_11.here hx rfl (hb hby at_88) ?_
    refine XT.ishr Xk0c6_11.here hx rfl (hb hby at_89) rfl ?_
    refine XS.iconst Xk0c6_11.here hx rfl (hb hby at_90) ?_
    refine XS.iand Xk0c6_11.here hx rfl (hb hby at_91) rfl ?_
    refine XS.iadd Xk0c6_11.here hx rfl (hb hby at_92) rfl ?_
    refine XS.iload Xk0c6_11.here hx rfl (hb hby at_93) rfl ?_
    refine XS.iconst Xk0c6_11.here hx rfl (hb hby at_95) ?_
    refine XT.ishr Xk0c6_11.here hx rfl (hb hby at_96) rfl ?_
    refine XS.iconst Xk0c6_11.here hx rfl (hb hby at_97) ?_
    refine XS.iand Xk0c6_11.here hx rfl (hb hby at_98) rfl ?_
    refine XS.iadd Xk0c6_11.here hx rfl (hb hby at_99) rfl ?_
    refine XS.iload Xk0c6_11.here hx rfl (hb hby at_100) rfl ?_
    refine XS.iconst Xk0c6_11.here hx rfl (hb hby at_102) ?_
    refine XT.ishr Xk0c6_11.here hx rfl (hb hby at_103) rfl ?_
    refine XS.iconst Xk0c6_11.here hx rfl (hb hby at_104) ?_
    refine XS.iand Xk0c6_11.here hx rfl (hb hby at_105) rfl ?_
    refine XS.iadd Xk0c6_11.here hx rfl (hb hby at_106) rfl ?_
    refine XS.iload Xk0c6_11.here hx rfl (hb hby at_107) rfl ?_
    refine XS.iconst Xk0c6_11.here hx rfl (hb hby at_109) ?_
    refine XT.ishr Xk0c6_11.here hx rfl (hb hby at_110) rfl ?_
    refine XS.iconst Xk0c6_11.here hx rfl (hb hby at_111) ?_
    refine XS.iand Xk0c6_11.here hx rfl (hb hby at_112) rfl ?_
    refine XS.iadd Xk0c6_11.here hx rfl (hb hby at_113) rfl ?_
    refine XS.istore Xk0c6_11.here hx rfl (hb hby at_114) rfl (l' := #[.val (.int p0c6_0), .val (.int p0c6_1), .val (.int p0c6_2), .val (.int p0c6_3), .val (.int (6 : Int32)), .val (.ref bk0c6_1_0), .val (.ref bk0c6_3_0), .val (.ref bk0c6_5_0), .val (.double (own_v0c6_1 p0c6_3)), .second, .val (.ref bn0c6_7), .val (.int (own_v0c6_2 p0c6_1)), .val (.int (own_v0c6_3 p0c6_1)), .val (.int (own_v0c6_4 p0c6_1))]) rfl ?_
    refine XS.iload Xk0c6_11.here hx rfl (hb hby at_116) rfl ?_
    refine XS.iload Xk0c6_11.here hx rfl (hb hby at_118) rfl ?_
    refine XS.icmpNo Xk0c6_11.here hx rfl (hb hby at_120) rfl (XT.ii_ne_f hc120) ?_
    refine XS.iconst Xk0c6_11.here hx rfl (hb hby at_123) ?_
    refine XS.goto Xk0c6_11.here hx rfl (pc0 := 124) (pc' := 128) rfl (hb hby at_124) (by decide) (by decide) ?_
    show Steps p.tables e below (Tk0c6_11.setTop (mkF m 128 #[.val (.int p0c6_0), .val (.int p0c6_1), .val (.int p0c6_2), .val (.int p0c6_3), .val (.int (6 : Int32)), .val (.ref bk0c6_1_0), .val (.ref bk0c6_3_0), .val (.ref bk0c6_5_0), .val (.double (own_v0c6_1 p0c6_3)), .second, .val (.ref bn0c6_7), .val (.int (own_v0c6_2 p0c6_1)), .val (.int (own_v0c6_3 p0c6_1)), .val (.int (own_v0c6_4 p0c6_1))] [(.int (1 : Int32))])) _
    exact retN Xk0c6_11 hx (t := .boolean) Bd.returns (by simp) (hb hby at_128) hr
  · show own_Q0c6 Z p0c6_0 p0c6_1 p0c6_2 p0c6_3 h0 n0 _ Tk0c6_11.heap _
    rw [ek0c6_11]
    exact ⟨rfl, Nk0c6_11⟩
def own_case (k : Int32) (i0 i1 i2 i3 : Int32) : Prop := own_v0c0_0 i0 = k
theorem own_n7 (x : Int32) : 0 ≤ (own_v0c0_0 x).toInt ∧ (own_v0c0_0 x).toInt < 7 := by
  unfold own_v0c0_0
  have ha : (x &&& (2147483647 : Int32)).toInt = x.toInt % 2 ^ 31 := Jvm.Kit.i32_mask _ _ (k := 31) (by decide) (by decide)
  generalize (x &&& (2147483647 : Int32)) = a at *
  have h7 : (7 : Int32).toInt = 7 := by decide
  have hd : (a / (7 : Int32)).toInt = a.toInt / 7 := by
    rw [Jvm.Kit.i32_div (by intro h; exact absurd h.2 (by decide)), h7, Int.tdiv_eq_ediv_of_nonneg (by omega)]
  have hm : (a / (7 : Int32) * (7 : Int32)).toInt = a.toInt / 7 * 7 := by
    rw [Jvm.Kit.i32_mul (by rw [hd, h7]; omega) (by rw [hd, h7]; omega), hd, h7]
  rw [Jvm.Kit.i32_sub (by rw [hm]; omega) (by rw [hm]; omega), hm]
  omega
theorem own_cases (i0 i1 i2 i3 : Int32) : own_case 0 i0 i1 i2 i3 ∨ own_case 1 i0 i1 i2 i3 ∨ own_case 2 i0 i1 i2 i3 ∨ own_case 3 i0 i1 i2 i3 ∨ own_case 4 i0 i1 i2 i3 ∨ own_case 5 i0 i1 i2 i3 ∨ own_case 6 i0 i1 i2 i3 := by
  have h := own_n7 i0
  unfold own_case
  simp only [← Int32.toInt_inj]
  have e : (0 : Int32).toInt = 0 ∧ (1 : Int32).toInt = 1 ∧ (2 : Int32).toInt = 2 ∧ (3 : Int32).toInt = 3 ∧ (4 : Int32).toInt = 4 ∧ (5 : Int32).toInt = 5 ∧ (6 : Int32).toInt = 6 := by decide
  obtain ⟨e0, e1, e2, e3, e4, e5, e6⟩ := e
  rw [e0, e1, e2, e3, e4, e5, e6]
  omega
theorem own_b01 (x i : Int32) : ((x >>> (i &&& 31)) &&& (1 : Int32)) = 0 ∨ ((x >>> (i &&& 31)) &&& (1 : Int32)) = 1 := by
  have h : ((x >>> (i &&& 31)) &&& (1 : Int32)).toInt = (x >>> (i &&& 31)).toInt % 2 ^ 1 := Jvm.Kit.i32_mask _ _ (k := 1) (by decide) (by decide)
  have z : (0 : Int32).toInt = 0 := by decide
  have o : (1 : Int32).toInt = 1 := by decide
  simp only [← Int32.toInt_inj, z, o]; omega
theorem own_st (r i p : Int32) : (if nar .boolean (own_r2_1 r i) = (0 : Int32) then p else p + (1 : Int32)) = p + ((r >>> (i &&& 31)) &&& (1 : Int32)) := by
  unfold own_r2_1 own_j2_0
  rcases own_b01 r i with h | h
  · rw [h, if_pos rfl, if_pos (by decide), Int32.add_zero]
  · rw [h, if_neg (by decide)]
theorem own_s0 (r : Int32) : (if nar .boolean (own_r2_1 r (0 : Int32)) = (0 : Int32) then (0 : Int32) else (1 : Int32)) = ((r >>> ((0 : Int32) &&& 31)) &&& (1 : Int32)) := by
  have h := own_st r 0 0
  rw [Int32.zero_add, Int32.zero_add] at h; exact h
theorem own_t0_0 (r : Int32) : ((r &&& (((1 : Int32) <<< ((0 : Int32) &&& 31)) - (1 : Int32))) &&& (1 : Int32)) = 0 := by
  apply Int32.toInt_inj.mp
  have z : (0 : Int32).toInt = 0 := by decide
  rw [Jvm.Kit.i32_mask _ (1 : Int32) (k := 1) (by decide) (by decide), Jvm.Kit.i32_mask r _ (k := 0) (by decide) (by decide), z]; omega
theorem own_t0_1 (r : Int32) : (((r &&& (((1 : Int32) <<< ((0 : Int32) &&& 31)) - (1 : Int32))) >>> ((1 : Int32) &&& 31)) &&& (1 : Int32)) = 0 := by
  apply Int32.toInt_inj.mp
  have z : (0 : Int32).toInt = 0 := by decide
  rw [Jvm.Kit.i32_mask _ (1 : Int32) (k := 1) (by decide) (by decide), Jvm.Kit.i32_shr (r &&& (((1 : Int32) <<< ((0 : Int32) &&& 31)) - (1 : Int32))) _ (k := 1) (by decide), Jvm.Kit.i32_mask r _ (k := 0) (by decide) (by decide), z]; omega
theorem own_t0_2 (r : Int32) : (((r &&& (((1 : Int32) <<< ((0 : Int32) &&& 31)) - (1 : Int32))) >>> ((2 : Int32) &&& 31)) &&& (1 : Int32)) = 0 := by
  apply Int32.toInt_inj.mp
  have z : (0 : Int32).toInt = 0 := by decide
  rw [Jvm.Kit.i32_mask _ (1 : Int32) (k := 1) (by decide) (by decide), Jvm.Kit.i32_shr (r &&& (((1 : Int32) <<< ((0 : Int32) &&& 31)) - (1 : Int32))) _ (k := 2) (by decide), Jvm.Kit.i32_mask r _ (k := 0) (by decide) (by decide), z]; omega
theorem own_t0_3 (r : Int32) : (((r &&& (((1 : Int32) <<< ((0 : Int32) &&& 31)) - (1 : Int32))) >>> ((3 : Int32) &&& 31)) &&& (1 : Int32)) = 0 := by
  apply Int32.toInt_inj.mp
  have z : (0 : Int32).toInt = 0 := by decide
  rw [Jvm.Kit.i32_mask _ (1 : Int32) (k := 1) (by decide) (by decide), Jvm.Kit.i32_shr (r &&& (((1 : Int32) <<< ((0 : Int32) &&& 31)) - (1 : Int32))) _ (k := 3) (by decide), Jvm.Kit.i32_mask r _ (k := 0) (by decide) (by decide), z]; omega
theorem own_t0_4 (r : Int32) : (((r &&& (((1 : Int32) <<< ((0 : Int32) &&& 31)) - (1 : Int32))) >>> ((4 : Int32) &&& 31)) &&& (1 : Int32)) = 0 := by
  apply Int32.toInt_inj.mp
  have z : (0 : Int32).toInt = 0 := by decide
  rw [Jvm.Kit.i32_mask _ (1 : Int32) (k := 1) (by decide) (by decide), Jvm.Kit.i32_shr (r &&& (((1 : Int32) <<< ((0 : Int32) &&& 31)) - (1 : Int32))) _ (k := 4) (by decide), Jvm.Kit.i32_mask r _ (k := 0) (by decide) (by decide), z]; omega
theorem own_t0_5 (r : Int32) : (((r &&& (((1 : Int32) <<< ((0 : Int32) &&& 31)) - (1 : Int32))) >>> ((5 : Int32) &&& 31)) &&& (1 : Int32)) = 0 := by
  apply Int32.toInt_inj.mp
  have z : (0 : Int32).toInt = 0 := by decide
  rw [Jvm.Kit.i32_mask _ (1 : Int32) (k := 1) (by decide) (by decide), Jvm.Kit.i32_shr (r &&& (((1 : Int32) <<< ((0 : Int32) &&& 31)) - (1 : Int32))) _ (k := 5) (by decide), Jvm.Kit.i32_mask r _ (k := 0) (by decide) (by decide), z]; omega
theorem own_t1_0 (r : Int32) : ((r &&& (((1 : Int32) <<< ((1 : Int32) &&& 31)) - (1 : Int32))) &&& (1 : Int32)) = ((r >>> ((0 : Int32) &&& 31)) &&& (1 : Int32)) := by
  apply Int32.toInt_inj.mp
  have z : (0 : Int32).toInt = 0 := by decide
  rw [Jvm.Kit.i32_mask _ (1 : Int32) (k := 1) (by decide) (by decide), Jvm.Kit.i32_mask r _ (k := 1) (by decide) (by decide), Jvm.Kit.i32_mask _ (1 : Int32) (k := 1) (by decide) (by decide), Jvm.Kit.i32_shr r _ (k := 0) (by decide)]; omega
theorem own_t1_1 (r : Int32) : (((r &&& (((1 : Int32) <<< ((1 : Int32) &&& 31)) - (1 : Int32))) >>> ((1 : Int32) &&& 31)) &&& (1 : Int32)) = 0 := by
  apply Int32.toInt_inj.mp
  have z : (0 : Int32).toInt = 0 := by decide
  rw [Jvm.Kit.i32_mask _ (1 : Int32) (k := 1) (by decide) (by decide), Jvm.Kit.i32_shr (r &&& (((1 : Int32) <<< ((1 : Int32) &&& 31)) - (1 : Int32))) _ (k := 1) (by decide), Jvm.Kit.i32_mask r _ (k := 1) (by decide) (by decide), z]; omega
theorem own_t1_2 (r : Int32) : (((r &&& (((1 : Int32) <<< ((1 : Int32) &&& 31)) - (1 : Int32))) >>> ((2 : Int32) &&& 31)) &&& (1 : Int32)) = 0 := by
  apply Int32.toInt_inj.mp
  have z : (0 : Int32).toInt = 0 := by decide
  rw [Jvm.Kit.i32_mask _ (1 : Int32) (k := 1) (by decide) (by decide), Jvm.Kit.i32_shr (r &&& (((1 : Int32) <<< ((1 : Int32) &&& 31)) - (1 : Int32))) _ (k := 2) (by decide), Jvm.Kit.i32_mask r _ (k := 1) (by decide) (by decide), z]; omega
theorem own_t1_3 (r : Int32) : (((r &&& (((1 : Int32) <<< ((1 : Int32) &&& 31)) - (1 : Int32))) >>> ((3 : Int32) &&& 31)) &&& (1 : Int32)) = 0 := by
  apply Int32.toInt_inj.mp
  have z : (0 : Int32).toInt = 0 := by decide
  rw [Jvm.Kit.i32_mask _ (1 : Int32) (k := 1) (by decide) (by decide), Jvm.Kit.i32_shr (r &&& (((1 : Int32) <<< ((1 : Int32) &&& 31)) - (1 : Int32))) _ (k := 3) (by decide), Jvm.Kit.i32_mask r _ (k := 1) (by decide) (by decide), z]; omega
theorem own_t1_4 (r : Int32) : (((r &&& (((1 : Int32) <<< ((1 : Int32) &&& 31)) - (1 : Int32))) >>> ((4 : Int32) &&& 31)) &&& (1 : Int32)) = 0 := by
  apply Int32.toInt_inj.mp
  have z : (0 : Int32).toInt = 0 := by decide
  rw [Jvm.Kit.i32_mask _ (1 : Int32) (k := 1) (by decide) (by decide), Jvm.Kit.i32_shr (r &&& (((1 : Int32) <<< ((1 : Int32) &&& 31)) - (1 : Int32))) _ (k := 4) (by decide), Jvm.Kit.i32_mask r _ (k := 1) (by decide) (by decide), z]; omega
theorem own_t1_5 (r : Int32) : (((r &&& (((1 : Int32) <<< ((1 : Int32) &&& 31)) - (1 : Int32))) >>> ((5 : Int32) &&& 31)) &&& (1 : Int32)) = 0 := by
  apply Int32.toInt_inj.mp
  have z : (0 : Int32).toInt = 0 := by decide
  rw [Jvm.Kit.i32_mask _ (1 : Int32) (k := 1) (by decide) (by decide), Jvm.Kit.i32_shr (r &&& (((1 : Int32) <<< ((1 : Int32) &&& 31)) - (1 : Int32))) _ (k := 5) (by decide), Jvm.Kit.i32_mask r _ (k := 1) (by decide) (by decide), z]; omega
theorem own_t2_0 (r : Int32) : ((r &&& (((1 : Int32) <<< ((2 : Int32) &&& 31)) - (1 : Int32))) &&& (1 : Int32)) = ((r >>> ((0 : Int32) &&& 31)) &&& (1 : Int32)) := by
  apply Int32.toInt_inj.mp
  have z : (0 : Int32).toInt = 0 := by decide
  rw [Jvm.Kit.i32_mask _ (1 : Int32) (k := 1) (by decide) (by decide), Jvm.Kit.i32_mask r _ (k := 2) (by decide) (by decide), Jvm.Kit.i32_mask _ (1 : Int32) (k := 1) (by decide) (by decide), Jvm.Kit.i32_shr r _ (k := 0) (by decide)]; omega
theorem own_t2_1 (r : Int32) : (((r &&& (((1 : Int32) <<< ((2 : Int32) &&& 31)) - (1 : Int32))) >>> ((1 : Int32) &&& 31)) &&& (1 : Int32)) = ((r >>> ((1 : Int32) &&& 31)) &&& (1 : Int32)) := by
  apply Int32.toInt_inj.mp
  have z : (0 : Int32).toInt = 0 := by decide
  rw [Jvm.Kit.i32_mask _ (1 : Int32) (k := 1) (by decide) (by decide), Jvm.Kit.i32_shr (r &&& (((1 : Int32) <<< ((2 : Int32) &&& 31)) - (1 : Int32))) _ (k := 1) (by decide), Jvm.Kit.i32_mask r _ (k := 2) (by decide) (by decide), Jvm.Kit.i32_mask _ (1 : Int32) (k := 1) (by decide) (by decide), Jvm.Kit.i32_shr r _ (k := 1) (by decide)]; omega
theorem own_t2_2 (r : Int32) : (((r &&& (((1 : Int32) <<< ((2 : Int32) &&& 31)) - (1 : Int32))) >>> ((2 : Int32) &&& 31)) &&& (1 : Int32)) = 0 := by
  apply Int32.toInt_inj.mp
  have z : (0 : Int32).toInt = 0 := by decide
  rw [Jvm.Kit.i32_mask _ (1 : Int32) (k := 1) (by decide) (by decide), Jvm.Kit.i32_shr (r &&& (((1 : Int32) <<< ((2 : Int32) &&& 31)) - (1 : Int32))) _ (k := 2) (by decide), Jvm.Kit.i32_mask r _ (k := 2) (by decide) (by decide), z]; omega
theorem own_t2_3 (r : Int32) : (((r &&& (((1 : Int32) <<< ((2 : Int32) &&& 31)) - (1 : Int32))) >>> ((3 : Int32) &&& 31)) &&& (1 : Int32)) = 0 := by
  apply Int32.toInt_inj.mp
  have z : (0 : Int32).toInt = 0 := by decide
  rw [Jvm.Kit.i32_mask _ (1 : Int32) (k := 1) (by decide) (by decide), Jvm.Kit.i32_shr (r &&& (((1 : Int32) <<< ((2 : Int32) &&& 31)) - (1 : Int32))) _ (k := 3) (by decide), Jvm.Kit.i32_mask r _ (k := 2) (by decide) (by decide), z]; omega
theorem own_t2_4 (r : Int32) : (((r &&& (((1 : Int32) <<< ((2 : Int32) &&& 31)) - (1 : Int32))) >>> ((4 : Int32) &&& 31)) &&& (1 : Int32)) = 0 := by
  apply Int32.toInt_inj.mp
  have z : (0 : Int32).toInt = 0 := by decide
  rw [Jvm.Kit.i32_mask _ (1 : Int32) (k := 1) (by decide) (by decide), Jvm.Kit.i32_shr (r &&& (((1 : Int32) <<< ((2 : Int32) &&& 31)) - (1 : Int32))) _ (k := 4) (by decide), Jvm.Kit.i32_mask r _ (k := 2) (by decide) (by decide), z]; omega
theorem own_t2_5 (r : Int32) : (((r &&& (((1 : Int32) <<< ((2 : Int32) &&& 31)) - (1 : Int32))) >>> ((5 : Int32) &&& 31)) &&& (1 : Int32)) = 0 := by
  apply Int32.toInt_inj.mp
  have z : (0 : Int32).toInt = 0 := by decide
  rw [Jvm.Kit.i32_mask _ (1 : Int32) (k := 1) (by decide) (by decide), Jvm.Kit.i32_shr (r &&& (((1 : Int32) <<< ((2 : Int32) &&& 31)) - (1 : Int32))) _ (k := 5) (by decide), Jvm.Kit.i32_mask r _ (k := 2) (by decide) (by decide), z]; omega
theorem own_t3_0 (r : Int32) : ((r &&& (((1 : Int32) <<< ((3 : Int32) &&& 31)) - (1 : Int32))) &&& (1 : Int32)) = ((r >>> ((0 : Int32) &&& 31)) &&& (1 : Int32)) := by
  apply Int32.toInt_inj.mp
  have z : (0 : Int32).toInt = 0 := by decide
  rw [Jvm.Kit.i32_mask _ (1 : Int32) (k := 1) (by decide) (by decide), Jvm.Kit.i32_mask r _ (k := 3) (by decide) (by decide), Jvm.Kit.i32_mask _ (1 : Int32) (k := 1) (by decide) (by decide), Jvm.Kit.i32_shr r _ (k := 0) (by decide)]; omega
theorem own_t3_1 (r : Int32) : (((r &&& (((1 : Int32) <<< ((3 : Int32) &&& 31)) - (1 : Int32))) >>> ((1 : Int32) &&& 31)) &&& (1 : Int32)) = ((r >>> ((1 : Int32) &&& 31)) &&& (1 : Int32)) := by
  apply Int32.toInt_inj.mp
  have z : (0 : Int32).toInt = 0 := by decide
  rw [Jvm.Kit.i32_mask _ (1 : Int32) (k := 1) (by decide) (by decide), Jvm.Kit.i32_shr (r &&& (((1 : Int32) <<< ((3 : Int32) &&& 31)) - (1 : Int32))) _ (k := 1) (by decide), Jvm.Kit.i32_mask r _ (k := 3) (by decide) (by decide), Jvm.Kit.i32_mask _ (1 : Int32) (k := 1) (by decide) (by decide), Jvm.Kit.i32_shr r _ (k := 1) (by decide)]; omega
theorem own_t3_2 (r : Int32) : (((r &&& (((1 : Int32) <<< ((3 : Int32) &&& 31)) - (1 : Int32))) >>> ((2 : Int32) &&& 31)) &&& (1 : Int32)) = ((r >>> ((2 : Int32) &&& 31)) &&& (1 : Int32)) := by
  apply Int32.toInt_inj.mp
  have z : (0 : Int32).toInt = 0 := by decide
  rw [Jvm.Kit.i32_mask _ (1 : Int32) (k := 1) (by decide) (by decide), Jvm.Kit.i32_shr (r &&& (((1 : Int32) <<< ((3 : Int32) &&& 31)) - (1 : Int32))) _ (k := 2) (by decide), Jvm.Kit.i32_mask r _ (k := 3) (by decide) (by decide), Jvm.Kit.i32_mask _ (1 : Int32) (k := 1) (by decide) (by decide), Jvm.Kit.i32_shr r _ (k := 2) (by decide)]; omega
theorem own_t3_3 (r : Int32) : (((r &&& (((1 : Int32) <<< ((3 : Int32) &&& 31)) - (1 : Int32))) >>> ((3 : Int32) &&& 31)) &&& (1 : Int32)) = 0 := by
  apply Int32.toInt_inj.mp
  have z : (0 : Int32).toInt = 0 := by decide
  rw [Jvm.Kit.i32_mask _ (1 : Int32) (k := 1) (by decide) (by decide), Jvm.Kit.i32_shr (r &&& (((1 : Int32) <<< ((3 : Int32) &&& 31)) - (1 : Int32))) _ (k := 3) (by decide), Jvm.Kit.i32_mask r _ (k := 3) (by decide) (by decide), z]; omega
theorem own_t3_4 (r : Int32) : (((r &&& (((1 : Int32) <<< ((3 : Int32) &&& 31)) - (1 : Int32))) >>> ((4 : Int32) &&& 31)) &&& (1 : Int32)) = 0 := by
  apply Int32.toInt_inj.mp
  have z : (0 : Int32).toInt = 0 := by decide
  rw [Jvm.Kit.i32_mask _ (1 : Int32) (k := 1) (by decide) (by decide), Jvm.Kit.i32_shr (r &&& (((1 : Int32) <<< ((3 : Int32) &&& 31)) - (1 : Int32))) _ (k := 4) (by decide), Jvm.Kit.i32_mask r _ (k := 3) (by decide) (by decide), z]; omega
theorem own_t3_5 (r : Int32) : (((r &&& (((1 : Int32) <<< ((3 : Int32) &&& 31)) - (1 : Int32))) >>> ((5 : Int32) &&& 31)) &&& (1 : Int32)) = 0 := by
  apply Int32.toInt_inj.mp
  have z : (0 : Int32).toInt = 0 := by decide
  rw [Jvm.Kit.i32_mask _ (1 : Int32) (k := 1) (by decide) (by decide), Jvm.Kit.i32_shr (r &&& (((1 : Int32) <<< ((3 : Int32) &&& 31)) - (1 : Int32))) _ (k := 5) (by decide), Jvm.Kit.i32_mask r _ (k := 3) (by decide) (by decide), z]; omega
theorem own_t4_0 (r : Int32) : ((r &&& (((1 : Int32) <<< ((4 : Int32) &&& 31)) - (1 : Int32))) &&& (1 : Int32)) = ((r >>> ((0 : Int32) &&& 31)) &&& (1 : Int32)) := by
  apply Int32.toInt_inj.mp
  have z : (0 : Int32).toInt = 0 := by decide
  rw [Jvm.Kit.i32_mask _ (1 : Int32) (k := 1) (by decide) (by decide), Jvm.Kit.i32_mask r _ (k := 4) (by decide) (by decide), Jvm.Kit.i32_mask _ (1 : Int32) (k := 1) (by decide) (by decide), Jvm.Kit.i32_shr r _ (k := 0) (by decide)]; omega
theorem own_t4_1 (r : Int32) : (((r &&& (((1 : Int32) <<< ((4 : Int32) &&& 31)) - (1 : Int32))) >>> ((1 : Int32) &&& 31)) &&& (1 : Int32)) = ((r >>> ((1 : Int32) &&& 31)) &&& (1 : Int32)) := by
  apply Int32.toInt_inj.mp
  have z : (0 : Int32).toInt = 0 := by decide
  rw [Jvm.Kit.i32_mask _ (1 : Int32) (k := 1) (by decide) (by decide), Jvm.Kit.i32_shr (r &&& (((1 : Int32) <<< ((4 : Int32) &&& 31)) - (1 : Int32))) _ (k := 1) (by decide), Jvm.Kit.i32_mask r _ (k := 4) (by decide) (by decide), Jvm.Kit.i32_mask _ (1 : Int32) (k := 1) (by decide) (by decide), Jvm.Kit.i32_shr r _ (k := 1) (by decide)]; omega
theorem own_t4_2 (r : Int32) : (((r &&& (((1 : Int32) <<< ((4 : Int32) &&& 31)) - (1 : Int32))) >>> ((2 : Int32) &&& 31)) &&& (1 : Int32)) = ((r >>> ((2 : Int32) &&& 31)) &&& (1 : Int32)) := by
  apply Int32.toInt_inj.mp
  have z : (0 : Int32).toInt = 0 := by decide
  rw [Jvm.Kit.i32_mask _ (1 : Int32) (k := 1) (by decide) (by decide), Jvm.Kit.i32_shr (r &&& (((1 : Int32) <<< ((4 : Int32) &&& 31)) - (1 : Int32))) _ (k := 2) (by decide), Jvm.Kit.i32_mask r _ (k := 4) (by decide) (by decide), Jvm.Kit.i32_mask _ (1 : Int32) (k := 1) (by decide) (by decide), Jvm.Kit.i32_shr r _ (k := 2) (by decide)]; omega
theorem own_t4_3 (r : Int32) : (((r &&& (((1 : Int32) <<< ((4 : Int32) &&& 31)) - (1 : Int32))) >>> ((3 : Int32) &&& 31)) &&& (1 : Int32)) = ((r >>> ((3 : Int32) &&& 31)) &&& (1 : Int32)) := by
  apply Int32.toInt_inj.mp
  have z : (0 : Int32).toInt = 0 := by decide
  rw [Jvm.Kit.i32_mask _ (1 : Int32) (k := 1) (by decide) (by decide), Jvm.Kit.i32_shr (r &&& (((1 : Int32) <<< ((4 : Int32) &&& 31)) - (1 : Int32))) _ (k := 3) (by decide), Jvm.Kit.i32_mask r _ (k := 4) (by decide) (by decide), Jvm.Kit.i32_mask _ (1 : Int32) (k := 1) (by decide) (by decide), Jvm.Kit.i32_shr r _ (k := 3) (by decide)]; omega
theorem own_t4_4 (r : Int32) : (((r &&& (((1 : Int32) <<< ((4 : Int32) &&& 31)) - (1 : Int32))) >>> ((4 : Int32) &&& 31)) &&& (1 : Int32)) = 0 := by
  apply Int32.toInt_inj.mp
  have z : (0 : Int32).toInt = 0 := by decide
  rw [Jvm.Kit.i32_mask _ (1 : Int32) (k := 1) (by decide) (by decide), Jvm.Kit.i32_shr (r &&& (((1 : Int32) <<< ((4 : Int32) &&& 31)) - (1 : Int32))) _ (k := 4) (by decide), Jvm.Kit.i32_mask r _ (k := 4) (by decide) (by decide), z]; omega
theorem own_t4_5 (r : Int32) : (((r &&& (((1 : Int32) <<< ((4 : Int32) &&& 31)) - (1 : Int32))) >>> ((5 : Int32) &&& 31)) &&& (1 : Int32)) = 0 := by
  apply Int32.toInt_inj.mp
  have z : (0 : Int32).toInt = 0 := by decide
  rw [Jvm.Kit.i32_mask _ (1 : Int32) (k := 1) (by decide) (by decide), Jvm.Kit.i32_shr (r &&& (((1 : Int32) <<< ((4 : Int32) &&& 31)) - (1 : Int32))) _ (k := 5) (by decide), Jvm.Kit.i32_mask r _ (k := 4) (by decide) (by decide), z]; omega
theorem own_t5_0 (r : Int32) : ((r &&& (((1 : Int32) <<< ((5 : Int32) &&& 31)) - (1 : Int32))) &&& (1 : Int32)) = ((r >>> ((0 : Int32) &&& 31)) &&& (1 : Int32)) := by
  apply Int32.toInt_inj.mp
  have z : (0 : Int32).toInt = 0 := by decide
  rw [Jvm.Kit.i32_mask _ (1 : Int32) (k := 1) (by decide) (by decide), Jvm.Kit.i32_mask r _ (k := 5) (by decide) (by decide), Jvm.Kit.i32_mask _ (1 : Int32) (k := 1) (by decide) (by decide), Jvm.Kit.i32_shr r _ (k := 0) (by decide)]; omega
theorem own_t5_1 (r : Int32) : (((r &&& (((1 : Int32) <<< ((5 : Int32) &&& 31)) - (1 : Int32))) >>> ((1 : Int32) &&& 31)) &&& (1 : Int32)) = ((r >>> ((1 : Int32) &&& 31)) &&& (1 : Int32)) := by
  apply Int32.toInt_inj.mp
  have z : (0 : Int32).toInt = 0 := by decide
  rw [Jvm.Kit.i32_mask _ (1 : Int32) (k := 1) (by decide) (by decide), Jvm.Kit.i32_shr (r &&& (((1 : Int32) <<< ((5 : Int32) &&& 31)) - (1 : Int32))) _ (k := 1) (by decide), Jvm.Kit.i32_mask r _ (k := 5) (by decide) (by decide), Jvm.Kit.i32_mask _ (1 : Int32) (k := 1) (by decide) (by decide), Jvm.Kit.i32_shr r _ (k := 1) (by decide)]; omega
theorem own_t5_2 (r : Int32) : (((r &&& (((1 : Int32) <<< ((5 : Int32) &&& 31)) - (1 : Int32))) >>> ((2 : Int32) &&& 31)) &&& (1 : Int32)) = ((r >>> ((2 : Int32) &&& 31)) &&& (1 : Int32)) := by
  apply Int32.toInt_inj.mp
  have z : (0 : Int32).toInt = 0 := by decide
  rw [Jvm.Kit.i32_mask _ (1 : Int32) (k := 1) (by decide) (by decide), Jvm.Kit.i32_shr (r &&& (((1 : Int32) <<< ((5 : Int32) &&& 31)) - (1 : Int32))) _ (k := 2) (by decide), Jvm.Kit.i32_mask r _ (k := 5) (by decide) (by decide), Jvm.Kit.i32_mask _ (1 : Int32) (k := 1) (by decide) (by decide), Jvm.Kit.i32_shr r _ (k := 2) (by decide)]; omega
theorem own_t5_3 (r : Int32) : (((r &&& (((1 : Int32) <<< ((5 : Int32) &&& 31)) - (1 : Int32))) >>> ((3 : Int32) &&& 31)) &&& (1 : Int32)) = ((r >>> ((3 : Int32) &&& 31)) &&& (1 : Int32)) := by
  apply Int32.toInt_inj.mp
  have z : (0 : Int32).toInt = 0 := by decide
  rw [Jvm.Kit.i32_mask _ (1 : Int32) (k := 1) (by decide) (by decide), Jvm.Kit.i32_shr (r &&& (((1 : Int32) <<< ((5 : Int32) &&& 31)) - (1 : Int32))) _ (k := 3) (by decide), Jvm.Kit.i32_mask r _ (k := 5) (by decide) (by decide), Jvm.Kit.i32_mask _ (1 : Int32) (k := 1) (by decide) (by decide), Jvm.Kit.i32_shr r _ (k := 3) (by decide)]; omega
theorem own_t5_4 (r : Int32) : (((r &&& (((1 : Int32) <<< ((5 : Int32) &&& 31)) - (1 : Int32))) >>> ((4 : Int32) &&& 31)) &&& (1 : Int32)) = ((r >>> ((4 : Int32) &&& 31)) &&& (1 : Int32)) := by
  apply Int32.toInt_inj.mp
  have z : (0 : Int32).toInt = 0 := by decide
  rw [Jvm.Kit.i32_mask _ (1 : Int32) (k := 1) (by decide) (by decide), Jvm.Kit.i32_shr (r &&& (((1 : Int32) <<< ((5 : Int32) &&& 31)) - (1 : Int32))) _ (k := 4) (by decide), Jvm.Kit.i32_mask r _ (k := 5) (by decide) (by decide), Jvm.Kit.i32_mask _ (1 : Int32) (k := 1) (by decide) (by decide), Jvm.Kit.i32_shr r _ (k := 4) (by decide)]; omega
theorem own_t5_5 (r : Int32) : (((r &&& (((1 : Int32) <<< ((5 : Int32) &&& 31)) - (1 : Int32))) >>> ((5 : Int32) &&& 31)) &&& (1 : Int32)) = 0 := by
  apply Int32.toInt_inj.mp
  have z : (0 : Int32).toInt = 0 := by decide
  rw [Jvm.Kit.i32_mask _ (1 : Int32) (k := 1) (by decide) (by decide), Jvm.Kit.i32_shr (r &&& (((1 : Int32) <<< ((5 : Int32) &&& 31)) - (1 : Int32))) _ (k := 5) (by decide), Jvm.Kit.i32_mask r _ (k := 5) (by decide) (by decide), z]; omega
theorem own_t6_0 (r : Int32) : ((r &&& (((1 : Int32) <<< ((6 : Int32) &&& 31)) - (1 : Int32))) &&& (1 : Int32)) = ((r >>> ((0 : Int32) &&& 31)) &&& (1 : Int32)) := by
  apply Int32.toInt_inj.mp
  have z : (0 : Int32).toInt = 0 := by decide
  rw [Jvm.Kit.i32_mask _ (1 : Int32) (k := 1) (by decide) (by decide), Jvm.Kit.i32_mask r _ (k := 6) (by decide) (by decide), Jvm.Kit.i32_mask _ (1 : Int32) (k := 1) (by decide) (by decide), Jvm.Kit.i32_shr r _ (k := 0) (by decide)]; omega
theorem own_t6_1 (r : Int32) : (((r &&& (((1 : Int32) <<< ((6 : Int32) &&& 31)) - (1 : Int32))) >>> ((1 : Int32) &&& 31)) &&& (1 : Int32)) = ((r >>> ((1 : Int32) &&& 31)) &&& (1 : Int32)) := by
  apply Int32.toInt_inj.mp
  have z : (0 : Int32).toInt = 0 := by decide
  rw [Jvm.Kit.i32_mask _ (1 : Int32) (k := 1) (by decide) (by decide), Jvm.Kit.i32_shr (r &&& (((1 : Int32) <<< ((6 : Int32) &&& 31)) - (1 : Int32))) _ (k := 1) (by decide), Jvm.Kit.i32_mask r _ (k := 6) (by decide) (by decide), Jvm.Kit.i32_mask _ (1 : Int32) (k := 1) (by decide) (by decide), Jvm.Kit.i32_shr r _ (k := 1) (by decide)]; omega
theorem own_t6_2 (r : Int32) : (((r &&& (((1 : Int32) <<< ((6 : Int32) &&& 31)) - (1 : Int32))) >>> ((2 : Int32) &&& 31)) &&& (1 : Int32)) = ((r >>> ((2 : Int32) &&& 31)) &&& (1 : Int32)) := by
  apply Int32.toInt_inj.mp
  have z : (0 : Int32).toInt = 0 := by decide
  rw [Jvm.Kit.i32_mask _ (1 : Int32) (k := 1) (by decide) (by decide), Jvm.Kit.i32_shr (r &&& (((1 : Int32) <<< ((6 : Int32) &&& 31)) - (1 : Int32))) _ (k := 2) (by decide), Jvm.Kit.i32_mask r _ (k := 6) (by decide) (by decide), Jvm.Kit.i32_mask _ (1 : Int32) (k := 1) (by decide) (by decide), Jvm.Kit.i32_shr r _ (k := 2) (by decide)]; omega
theorem own_t6_3 (r : Int32) : (((r &&& (((1 : Int32) <<< ((6 : Int32) &&& 31)) - (1 : Int32))) >>> ((3 : Int32) &&& 31)) &&& (1 : Int32)) = ((r >>> ((3 : Int32) &&& 31)) &&& (1 : Int32)) := by
  apply Int32.toInt_inj.mp
  have z : (0 : Int32).toInt = 0 := by decide
  rw [Jvm.Kit.i32_mask _ (1 : Int32) (k := 1) (by decide) (by decide), Jvm.Kit.i32_shr (r &&& (((1 : Int32) <<< ((6 : Int32) &&& 31)) - (1 : Int32))) _ (k := 3) (by decide), Jvm.Kit.i32_mask r _ (k := 6) (by decide) (by decide), Jvm.Kit.i32_mask _ (1 : Int32) (k := 1) (by decide) (by decide), Jvm.Kit.i32_shr r _ (k := 3) (by decide)]; omega
theorem own_t6_4 (r : Int32) : (((r &&& (((1 : Int32) <<< ((6 : Int32) &&& 31)) - (1 : Int32))) >>> ((4 : Int32) &&& 31)) &&& (1 : Int32)) = ((r >>> ((4 : Int32) &&& 31)) &&& (1 : Int32)) := by
  apply Int32.toInt_inj.mp
  have z : (0 : Int32).toInt = 0 := by decide
  rw [Jvm.Kit.i32_mask _ (1 : Int32) (k := 1) (by decide) (by decide), Jvm.Kit.i32_shr (r &&& (((1 : Int32) <<< ((6 : Int32) &&& 31)) - (1 : Int32))) _ (k := 4) (by decide), Jvm.Kit.i32_mask r _ (k := 6) (by decide) (by decide), Jvm.Kit.i32_mask _ (1 : Int32) (k := 1) (by decide) (by decide), Jvm.Kit.i32_shr r _ (k := 4) (by decide)]; omega
theorem own_t6_5 (r : Int32) : (((r &&& (((1 : Int32) <<< ((6 : Int32) &&& 31)) - (1 : Int32))) >>> ((5 : Int32) &&& 31)) &&& (1 : Int32)) = ((r >>> ((5 : Int32) &&& 31)) &&& (1 : Int32)) := by
  apply Int32.toInt_inj.mp
  have z : (0 : Int32).toInt = 0 := by decide
  rw [Jvm.Kit.i32_mask _ (1 : Int32) (k := 1) (by decide) (by decide), Jvm.Kit.i32_shr (r &&& (((1 : Int32) <<< ((6 : Int32) &&& 31)) - (1 : Int32))) _ (k := 5) (by decide), Jvm.Kit.i32_mask r _ (k := 6) (by decide) (by decide), Jvm.Kit.i32_mask _ (1 : Int32) (k := 1) (by decide) (by decide), Jvm.Kit.i32_shr r _ (k := 5) (by decide)]; omega
theorem own_x_0c0_fx7 (i0 i1 i2 i3 : Int32) (h : own_case 0 i0 i1 i2 i3) : (own_v0c0_0 i0) = (0 : Int32) := h
theorem own_x_0c0_hc120 (i0 i1 i2 i3 : Int32) (h : own_case 0 i0 i1 i2 i3) : (0 : Int32) = (own_v0c0_3 i1) := by
  unfold own_v0c0_3 own_v0c0_2
  rw [own_t0_0, own_t0_1, own_t0_2, own_t0_3, own_t0_4, own_t0_5]
  decide
theorem own_x_0c1_fx7 (i0 i1 i2 i3 : Int32) (h : own_case 1 i0 i1 i2 i3) : (own_v0c1_0 i0) = (1 : Int32) := h
theorem own_x_0c1_hc120 (i0 i1 i2 i3 : Int32) (h : own_case 1 i0 i1 i2 i3) : (own_v0c1_2 i1) = (own_v0c1_4 i1) := by
  unfold own_v0c1_4 own_v0c1_3 own_v0c1_2 own_rrc1_1 own_jrc1_0 own_vruns1_0
  rw [own_s0, own_t1_0, own_t1_1, own_t1_2, own_t1_3, own_t1_4, own_t1_5, Int32.add_zero, Int32.add_zero, Int32.add_zero, Int32.add_zero, Int32.add_zero]
theorem own_x_0c2_fx7 (i0 i1 i2 i3 : Int32) (h : own_case 2 i0 i1 i2 i3) : (own_v0c2_0 i0) = (2 : Int32) := h
theorem own_x_0c2_hc120 (i0 i1 i2 i3 : Int32) (h : own_case 2 i0 i1 i2 i3) : (own_v0c2_2 i1) = (own_v0c2_4 i1) := by
  unfold own_v0c2_4 own_v0c2_3 own_v0c2_2 own_rrc2_2 own_jrc2_1 own_jrc2_0 own_vruns2_0 own_vruns2_1
  rw [own_st, own_s0, own_t2_0, own_t2_1, own_t2_2, own_t2_3, own_t2_4, own_t2_5, Int32.add_zero, Int32.add_zero, Int32.add_zero, Int32.add_zero]
theorem own_x_0c3_fx7 (i0 i1 i2 i3 : Int32) (h : own_case 3 i0 i1 i2 i3) : (own_v0c3_0 i0) = (3 : Int32) := h
theorem own_x_0c3_hc120 (i0 i1 i2 i3 : Int32) (h : own_case 3 i0 i1 i2 i3) : (own_v0c3_2 i1) = (own_v0c3_4 i1) := by
  unfold own_v0c3_4 own_v0c3_3 own_v0c3_2 own_rrc3_3 own_jrc3_2 own_jrc3_1 own_jrc3_0 own_vruns3_0 own_vruns3_1 own_vruns3_2
  rw [own_st, own_st, own_s0, own_t3_0, own_t3_1, own_t3_2, own_t3_3, own_t3_4, own_t3_5, Int32.add_zero, Int32.add_zero, Int32.add_zero]
theorem own_x_0c4_fx7 (i0 i1 i2 i3 : Int32) (h : own_case 4 i0 i1 i2 i3) : (own_v0c4_0 i0) = (4 : Int32) := h
theorem own_x_0c4_hc120 (i0 i1 i2 i3 : Int32) (h : own_case 4 i0 i1 i2 i3) : (own_v0c4_2 i1) = (own_v0c4_4 i1) := by
  unfold own_v0c4_4 own_v0c4_3 own_v0c4_2 own_rrc4_4 own_jrc4_3 own_jrc4_2 own_jrc4_1 own_jrc4_0 own_vruns4_0 own_vruns4_1 own_vruns4_2 own_vruns4_3
  rw [own_st, own_st, own_st, own_s0, own_t4_0, own_t4_1, own_t4_2, own_t4_3, own_t4_4, own_t4_5, Int32.add_zero, Int32.add_zero]
theorem own_x_0c5_fx7 (i0 i1 i2 i3 : Int32) (h : own_case 5 i0 i1 i2 i3) : (own_v0c5_0 i0) = (5 : Int32) := h
theorem own_x_0c5_hc120 (i0 i1 i2 i3 : Int32) (h : own_case 5 i0 i1 i2 i3) : (own_v0c5_2 i1) = (own_v0c5_4 i1) := by
  unfold own_v0c5_4 own_v0c5_3 own_v0c5_2 own_rrc5_5 own_jrc5_4 own_jrc5_3 own_jrc5_2 own_jrc5_1 own_jrc5_0 own_vruns5_0 own_vruns5_1 own_vruns5_2 own_vruns5_3 own_vruns5_4
  rw [own_st, own_st, own_st, own_st, own_s0, own_t5_0, own_t5_1, own_t5_2, own_t5_3, own_t5_4, own_t5_5, Int32.add_zero]
theorem own_x_0c6_fx7 (i0 i1 i2 i3 : Int32) (h : own_case 6 i0 i1 i2 i3) : (own_v0c6_0 i0) = (6 : Int32) := h
theorem own_x_0c6_hc120 (i0 i1 i2 i3 : Int32) (h : own_case 6 i0 i1 i2 i3) : (own_v0c6_2 i1) = (own_v0c6_4 i1) := by
  unfold own_v0c6_4 own_v0c6_3 own_v0c6_2 own_rrc6_6 own_jrc6_5 own_jrc6_4 own_jrc6_3 own_jrc6_2 own_jrc6_1 own_jrc6_0 own_vruns6_0 own_vruns6_1 own_vruns6_2 own_vruns6_3 own_vruns6_4 own_vruns6_5
  rw [own_st, own_st, own_st, own_st, own_st, own_s0, own_t6_0, own_t6_1, own_t6_2, own_t6_3, own_t6_4, own_t6_5]

def own_Q0 (Z : State) (i0 : Int32) (i1 : Int32) (i2 : Int32) (i3 : Int32) (h0 : Heap) (n0 : Nat) (v : Option Value) (h : Heap) (L : List Loc) : Prop := v = some (.int (1 : Int32)) ∧ Fr n0 L
theorem own_rm0 (l : Launch) (Z : State) (a0 : Array Value) (hw : ∀ d ∈ tables_1, d.before a0 Z = true) (ws : List Jvm.Cond) (i0 : Int32) (i1 : Int32) (i2 : Int32) (i3 : Int32) (h0 : Heap) (n0 : Nat) (Z0 : n0 ≤ h0.size) :
    MetFree l x (head1 (Jvm.Cond.code x code maxLocals ret :: ws) room_1) (fun a U => a = #[(.int i0), (.int i1), (.int i2), (.int i3)] ∧ Z.Warmed39 U.vm ∧ U.heap = h0) (fun _ _ _ _ _ => True) (fun _ U o U' => ∃ v L, o = .returned v ∧ own_Q0 Z i0 i1 i2 i3 h0 n0 v U'.heap L ∧ FrameEnd U o U' L room_1.cells room_1.slots) := by
  rcases own_cases i0 i1 i2 i3 with hcase | hcase | hcase | hcase | hcase | hcase | hcase
  · exact own_rm0c0 l Z a0 hw ws i0 i1 i2 i3 h0 n0 Z0 (own_x_0c0_fx7 i0 i1 i2 i3 hcase) (own_x_0c0_hc120 i0 i1 i2 i3 hcase)
  · exact own_rm0c1 l Z a0 hw ws i0 i1 i2 i3 h0 n0 Z0 (own_x_0c1_fx7 i0 i1 i2 i3 hcase) (own_x_0c1_hc120 i0 i1 i2 i3 hcase)
  · exact own_rm0c2 l Z a0 hw ws i0 i1 i2 i3 h0 n0 Z0 (own_x_0c2_fx7 i0 i1 i2 i3 hcase) (own_x_0c2_hc120 i0 i1 i2 i3 hcase)
  · exact own_rm0c3 l Z a0 hw ws i0 i1 i2 i3 h0 n0 Z0 (own_x_0c3_fx7 i0 i1 i2 i3 hcase) (own_x_0c3_hc120 i0 i1 i2 i3 hcase)
  · exact own_rm0c4 l Z a0 hw ws i0 i1 i2 i3 h0 n0 Z0 (own_x_0c4_fx7 i0 i1 i2 i3 hcase) (own_x_0c4_hc120 i0 i1 i2 i3 hcase)
  · exact own_rm0c5 l Z a0 hw ws i0 i1 i2 i3 h0 n0 Z0 (own_x_0c5_fx7 i0 i1 i2 i3 hcase) (own_x_0c5_hc120 i0 i1 i2 i3 hcase)
  · exact own_rm0c6 l Z a0 hw ws i0 i1 i2 i3 h0 n0 Z0 (own_x_0c6_fx7 i0 i1 i2 i3 hcase) (own_x_0c6_hc120 i0 i1 i2 i3 hcase)
set_option maxRecDepth 65536 in
set_option maxHeartbeats 40000000 in
theorem comes_1 {Post : Tables → Env → Array Value → State → Outcome → State → Prop} (hpost : ∀ tb e args s v u, (limb_1_1.after args s (.returned v) u = true ∧ limb_1_2.after args s (.returned v) u = true ∧ True) → FrameEnd s (.returned v) u (Jvm.fieldLocs frame_1_writes args s ++ Jvm.arrayLocs frame_1_arrays args s ++ Jvm.staticLocs frame_1_statics s) 16 128 → Post tb e args s (.returned v) u) :
    ArmFor flags0 classFile x code maxLocals ret World_1 tables_1 room_1 Calls_1 rest_1 Pre_1 Post := by
  intro l hfl _ _ p e ha hc hk s m args below hf hA hF happ hP
  obtain ⟨hcalls, hrest, hpre⟩ := hP
  obtain ⟨-, -, -, hnamed, -, -, -, hat⟩ := (Spec.applies_iff hf).mp happ
  obtain ⟨hg, hn⟩ := and_e (Cond.before_iff.mp (show (Jvm.Cond.and given_1 narrow_1).before args s = true from hpre))
  obtain ⟨g1a, g1b⟩ := and_e hg
  obtain ⟨g2a, g2b⟩ := and_e g1b
  obtain ⟨g3a, g3b⟩ := and_e g2b
  obtain ⟨g4a, g4b⟩ := and_e g3b
  obtain ⟨w0, w1, w2, w3, rfl⟩ : ∃ w0 w1 w2 w3 : Value, args = #[w0, w1, w2, w3] := by
    have hs : args.size = 4 := by simpa [Cond.value, given_1] using g1a
    obtain ⟨L⟩ := args
    match L, hs with
    | [w0, w1, w2, w3], _ => exact ⟨w0, w1, w2, w3, rfl⟩
  have hw := fun d (hd : d ∈ tables_1) => atoms_spec (ws := Jvm.Cond.code x code maxLocals ret :: tables_1) hat d (List.mem_cons_of_mem _ hd)
  obtain ⟨i0, ei0⟩ := is_v g2a
  obtain rfl : w0 = (.int i0) := Option.some.inj ei0
  obtain ⟨i1, ei1⟩ := is_v g3a
  obtain rfl : w1 = (.int i1) := Option.some.inj ei1
  obtain ⟨i2, ei2⟩ := is_v g4a
  obtain rfl : w2 = (.int i2) := Option.some.inj ei2
  obtain ⟨i3, ei3⟩ := is_v g4b
  obtain rfl : w3 = (.int i3) := Option.some.inj ei3
  obtain ⟨n, o, h1, h2, h3, _, L, rfl, ⟨rfl, N⟩, hq⟩ := own_rm0 l s _ hw tables_1 i0 i1 i2 i3 s.heap s.heap.size (Nat.le_refl _)  p e ha hc hk s m _ below hf ((Spec.applies_iff_loose hf).mp happ).1 ⟨rfl, State.Warmed39.refl s, rfl⟩ trivial
  refine ⟨n, _, h1, h2, h3, hpost _ _ _ _ _ _ ⟨Cond.after_iff.mpr rfl, Cond.after_iff.mpr (eq_i res_at (Term.int_eval (1)) rfl), trivial⟩ ⟨hq.1, hq.2.1, (hq.2.2.sift fun y hy => Or.inr (N y hy)).mono (by decide) (by decide)⟩⟩
theorem main_1_1 : Claimed_1_1 := comes_1 fun _ _ _ _ _ _ h hF => ⟨h.1, hF⟩
theorem main_1_2 : Claimed_1_2 := comes_1 fun _ _ _ _ _ _ h hF => ⟨h.2.1, hF⟩
end Jvm.Pilot.@@N@@
namespace Jvm.Pilot.@@N@@
open Jvm Jvm.ClassFile Sem Op Lib Jvm.Free Jvm.Stand Jvm.Pilot.@@N@@.Jvm.D
/-! MADE BY PROGRAM (witnessworld.py) out of the Statement's table words and the real class files: 14 classes; the members and pool entries that the words name. The judged class is class 1, her method 7. -/
namespace start1
open Jvm.ClassFile
def u (s : String) : CpInfo := .utf8 (stringToUtf16 s)
/-- a pool by its gaps: so many unusable entries, then the entry; so many at the end -/
def gap : Nat → List CpInfo → List CpInfo
  | 0, r => r
  | n + 1, r => .unusable :: gap n r
def poolList (es : List (Nat × CpInfo)) (last : Nat) : List CpInfo := es.foldr (fun e r => gap e.1 (e.2 :: r)) (gap last [])
def pool (es : List (Nat × CpInfo)) (last : Nat) : Array CpInfo := ⟨poolList es last⟩
def fileOf (pool : Array CpInfo) (this : Nat) (attrs : Array Attribute := #[]) (ms : Array MethodInfo := #[]) (fl : Nat := 33) (sup : Nat := 0) (ifs : Array Nat := #[]) (fds : Array FieldInfo := #[]) : ClassFile where
  minorVersion := 0
  majorVersion := 65
  constantPool := pool
  accessFlags := fl
  thisClass := this
  superClass := sup
  interfaces := ifs
  fields := fds
  methods := ms
  attributes := attrs
def plain (name : String) (sup : Option ClassId) : Class where
  name := name
  kind := .ordinary
  loader := none
  accessFlags := 33
  super := sup
  interfaces := #[]
  cf := none
  fields := #[]
  methods := #[]
  instanceTypes := #[]
  staticTypes := #[]
  resolved := #[]
  callSites := []
  init := .initialized
  statics := none
  mirror := none

def pool0 : Array CpInfo := pool [(5, u "<init>"), (0, u "()V"), (1, .class_ 10), (1, u "java/lang/Object")] 113

def k0c0 : Code := { maxStack := 0, maxLocals := 1, code := object_method_1_code, exceptionTable := #[], attributes := #[] }
def k0m0 : Method := { name := "<init>", desc := "()V", sig := { parameters := [], returnType := none }, accessFlags := 1, code := some k0c0 }
/-- java/lang/Object -/
def k0 : Class := { plain "java/lang/Object" none with
  accessFlags := 33
  interfaces := #[]
  cf := some (fileOf pool0 8 #[] #[{ accessFlags := 1, nameIndex := 5, descriptorIndex := 6, attributes := #[] }] 33 0 #[] #[])
  fields := #[]
  methods := #[k0m0]
  instanceTypes := #[]
  staticTypes := #[]
  resolved := Array.replicate 124 none
  statics := none }

def pool1 : Array CpInfo := pool [(2, .class_ 4), (1, u "java/lang/Object"), (0, u "<init>"), (0, u "()V"), (0, .methodref 8 9), (0, .class_ 10), (0, .nameAndType 11 12), (0, u "com/example/arborway/arborway/sim/WalkRunningCountPinLaw"), (0, u "bit"), (0, u "(II)Z"), (0, .methodref 8 14), (0, .nameAndType 15 16), (0, u "dep"), (0, u "(II)I"), (0, .double 4652007308841189376), (1, .methodref 8 20), (0, .nameAndType 21 22), (0, u "del"), (0, u "(II)D"), (0, .integer 2147483647), (0, .methodref 8 25), (0, .nameAndType 26 27), (0, u "runs"), (0, u "(II)[Z"), (0, .methodref 8 29), (0, .nameAndType 30 31), (0, u "depths"), (0, u "(II)[I"), (0, .methodref 8 33), (0, .nameAndType 34 35), (0, u "delays"), (0, u "(II)[D"), (0, .class_ 37), (0, u "com/example/arborway/arborway/sim/RunTally$Walk"), (0, .methodref 36 39), (0, .nameAndType 5 40), (0, u "([I[D[ZD)V"), (0, .methodref 36 42), (0, .nameAndType 43 44), (0, u "runningCount"), (0, u "()I"), (3, u "law"), (0, u "(IIII)Z")] 12

def k1m0 : Method := { name := "<init>", desc := "()V", sig := { parameters := [], returnType := none }, accessFlags := 2, code := none }
def k1c1 : Code := { maxStack := 2, maxLocals := 2, code := method_2_code, exceptionTable := #[], attributes := #[] }
def k1m1 : Method := { name := "bit", desc := "(II)Z", sig := { parameters := [.int, .int], returnType := some .boolean }, accessFlags := 10, code := some k1c1 }
def k1c2 : Code := { maxStack := 4, maxLocals := 8, code := method_3_code, exceptionTable := #[], attributes := #[] }
def k1m2 : Method := { name := "runs", desc := "(II)[Z", sig := { parameters := [.int, .int], returnType := some (.array .boolean) }, accessFlags := 10, code := some k1c2 }
def k1c3 : Code := { maxStack := 2, maxLocals := 2, code := method_4_code, exceptionTable := #[], attributes := #[] }
def k1m3 : Method := { name := "dep", desc := "(II)I", sig := { parameters := [.int, .int], returnType := some .int }, accessFlags := 10, code := some k1c3 }
def k1c4 : Code := { maxStack := 5, maxLocals := 2, code := method_5_code, exceptionTable := #[], attributes := #[] }
def k1m4 : Method := { name := "depths", desc := "(II)[I", sig := { parameters := [.int, .int], returnType := some (.array .int) }, accessFlags := 10, code := some k1c4 }
def k1c5 : Code := { maxStack := 2, maxLocals := 2, code := method_6_code, exceptionTable := #[], attributes := #[] }
def k1m5 : Method := { name := "del", desc := "(II)D", sig := { parameters := [.int, .int], returnType := some .double }, accessFlags := 10, code := some k1c5 }
def k1c6 : Code := { maxStack := 5, maxLocals := 2, code := method_7_code, exceptionTable := #[], attributes := #[] }
def k1m6 : Method := { name := "delays", desc := "(II)[D", sig := { parameters := [.int, .int], returnType := some (.array .double) }, accessFlags := 10, code := some k1c6 }
def k1c7 : Code := { maxStack := 7, maxLocals := 14, code := code, exceptionTable := #[], attributes := #[] }
def k1m7 : Method := { name := "law", desc := "(IIII)Z", sig := { parameters := [.int, .int, .int, .int], returnType := some .boolean }, accessFlags := 9, code := some k1c7 }
/-- com/example/arborway/arborway/sim/WalkRunningCountPinLaw -/
def k1 : Class := { plain "com/example/arborway/arborway/sim/WalkRunningCountPinLaw" (some 0) with
  accessFlags := 49
  interfaces := #[]
  cf := some (fileOf pool1 8 #[] #[{ accessFlags := 2, nameIndex := 5, descriptorIndex := 6, attributes := #[] }, { accessFlags := 10, nameIndex := 11, descriptorIndex := 12, attributes := #[] }, { accessFlags := 10, nameIndex := 26, descriptorIndex := 27, attributes := #[] }, { accessFlags := 10, nameIndex := 15, descriptorIndex := 16, attributes := #[] }, { accessFlags := 10, nameIndex := 30, descriptorIndex := 31, attributes := #[] }, { accessFlags := 10, nameIndex := 21, descriptorIndex := 22, attributes := #[] }, { accessFlags := 10, nameIndex := 34, descriptorIndex := 35, attributes := #[] }, { accessFlags := 9, nameIndex := 48, descriptorIndex := 49, attributes := #[] }] 49 2 #[] #[])
  fields := #[]
  methods := #[k1m0, k1m1, k1m2, k1m3, k1m4, k1m5, k1m6, k1m7]
  instanceTypes := #[]
  staticTypes := #[]
  resolved := Array.replicate 62 none
  statics := none }

def pool2 : Array CpInfo := pool [(1, .methodref 2 3), (0, .class_ 4), (0, .nameAndType 5 6), (0, u "java/lang/Object"), (0, u "<init>"), (0, u "()V"), (0, .class_ 8), (0, u "java/lang/Record")] 13

def k2c0 : Code := { maxStack := 1, maxLocals := 1, code := jdk_30_method_1_code, exceptionTable := #[], attributes := #[] }
def k2m0 : Method := { name := "<init>", desc := "()V", sig := { parameters := [], returnType := none }, accessFlags := 4, code := some k2c0 }
/-- java/lang/Record -/
def k2 : Class := { plain "java/lang/Record" (some 0) with
  accessFlags := 1057
  interfaces := #[]
  cf := some (fileOf pool2 7 #[] #[{ accessFlags := 4, nameIndex := 5, descriptorIndex := 6, attributes := #[] }] 1057 2 #[] #[])
  fields := #[]
  methods := #[k2m0]
  instanceTypes := #[]
  staticTypes := #[]
  resolved := Array.replicate 22 none
  statics := none }

def pool3 : Array CpInfo := pool [(1, .methodref 2 3), (0, .class_ 4), (0, .nameAndType 5 6), (0, u "java/lang/Record"), (0, u "<init>"), (0, u "()V"), (0, .fieldref 8 9), (0, .class_ 10), (0, .nameAndType 11 12), (0, u "com/example/arborway/arborway/sim/RunTally$Walk"), (0, u "depth"), (0, u "[I"), (0, .fieldref 8 14), (0, .nameAndType 15 16), (0, u "rootDelayMs"), (0, u "[D"), (0, .fieldref 8 18), (0, .nameAndType 19 20), (0, u "running"), (0, u "[Z"), (0, .fieldref 8 22), (0, .nameAndType 23 24), (0, u "costMs"), (0, u "D"), (22, u "([I[D[ZD)V"), (11, u "runningCount"), (0, u "()I"), (9, .class_ 71), (0, u "com/example/arborway/arborway/sim/RunTally")] 22

def k3c0 : Code := { maxStack := 3, maxLocals := 6, code := prog_76_method_1_code, exceptionTable := #[], attributes := #[] }
def k3m0 : Method := { name := "<init>", desc := "([I[D[ZD)V", sig := { parameters := [(.array .int), (.array .double), (.array .boolean), .double], returnType := none }, accessFlags := 0, code := some k3c0 }
def k3c1 : Code := { maxStack := 2, maxLocals := 6, code := prog_76_method_5_code, exceptionTable := #[], attributes := #[] }
def k3m1 : Method := { name := "runningCount", desc := "()I", sig := { parameters := [], returnType := some .int }, accessFlags := 0, code := some k3c1 }
/-- com/example/arborway/arborway/sim/RunTally$Walk -/
def k3 : Class := { plain "com/example/arborway/arborway/sim/RunTally$Walk" (some 2) with
  accessFlags := 48
  interfaces := #[]
  cf := some (fileOf pool3 8 #[.nestHost 70] #[{ accessFlags := 0, nameIndex := 5, descriptorIndex := 47, attributes := #[] }, { accessFlags := 0, nameIndex := 59, descriptorIndex := 60, attributes := #[] }] 48 2 #[] #[{ accessFlags := 18, nameIndex := 11, descriptorIndex := 12, attributes := #[] }, { accessFlags := 18, nameIndex := 15, descriptorIndex := 16, attributes := #[] }, { accessFlags := 18, nameIndex := 19, descriptorIndex := 20, attributes := #[] }, { accessFlags := 18, nameIndex := 23, descriptorIndex := 24, attributes := #[] }])
  fields := #[{ name := "depth", type := (.array .int), accessFlags := 18, slot := 0, constantValue := 0 }, { name := "rootDelayMs", type := (.array .double), accessFlags := 18, slot := 1, constantValue := 0 }, { name := "running", type := (.array .boolean), accessFlags := 18, slot := 2, constantValue := 0 }, { name := "costMs", type := .double, accessFlags := 18, slot := 3, constantValue := 0 }]
  methods := #[k3m0, k3m1]
  instanceTypes := #[(.array .int), (.array .double), (.array .boolean), .double]
  staticTypes := #[]
  resolved := Array.replicate 94 none
  statics := none }

def pool4 : Array CpInfo := pool [(1, u "java/lang/Cloneable"), (0, .class_ 1), (0, u "java/lang/Object"), (0, .class_ 3)] 3

/-- java/lang/Cloneable -/
def k4 : Class := { plain "java/lang/Cloneable" (some 0) with
  accessFlags := 1537
  interfaces := #[]
  cf := some (fileOf pool4 2 #[] #[] 1537 4 #[] #[])
  fields := #[]
  methods := #[]
  instanceTypes := #[]
  staticTypes := #[]
  resolved := Array.replicate 8 none
  statics := none }

def pool5 : Array CpInfo := pool [(1, u "java/io/Serializable"), (0, .class_ 1), (0, u "java/lang/Object"), (0, .class_ 3)] 3

/-- java/io/Serializable -/
def k5 : Class := { plain "java/io/Serializable" (some 0) with
  accessFlags := 1537
  interfaces := #[]
  cf := some (fileOf pool5 2 #[] #[] 1537 4 #[] #[])
  fields := #[]
  methods := #[]
  instanceTypes := #[]
  staticTypes := #[]
  resolved := Array.replicate 8 none
  statics := none }

/-- the primitive boolean -/
def k6 : Class := { plain "boolean" none with kind := .primitive 'Z', accessFlags := 0x411 }
/-- [Z -/
def k7 : Class := { plain "[Z" (some 0) with kind := .array 6 .boolean, interfaces := #[4, 5], accessFlags := 1041 }

/-- the primitive byte -/
def k8 : Class := { plain "byte" none with kind := .primitive 'B', accessFlags := 0x411 }
/-- [B -/
def k9 : Class := { plain "[B" (some 0) with kind := .array 8 .byte, interfaces := #[4, 5], accessFlags := 1041 }

/-- the primitive double -/
def k10 : Class := { plain "double" none with kind := .primitive 'D', accessFlags := 0x411 }
/-- [D -/
def k11 : Class := { plain "[D" (some 0) with kind := .array 10 .double, interfaces := #[4, 5], accessFlags := 1041 }

/-- the primitive int -/
def k12 : Class := { plain "int" none with kind := .primitive 'I', accessFlags := 0x411 }
/-- [I -/
def k13 : Class := { plain "[I" (some 0) with kind := .array 12 .int, interfaces := #[4, 5], accessFlags := 1041 }

def heap : Heap := #[]
def classes : Array Class := #[k0, k1, k2, k3, k4, k5, k6, k7, k8, k9, k10, k11, k12, k13]
def interned : List (Array UInt16 × Addr) := []
def slotsUsed : Nat := 0
def theMethod : MethodId := ⟨1, 7⟩
def args0 : Array Value := #[.int 5, .int 6, .int 3, .int 1]
def aboutOver (below : List Frame) : State where
  vm := { classes := classes, interned := interned.toArray }
  heap := heap
  slotsUsed := slotsUsed
  threads := #[{ frames := .invoking theMethod args0 :: below }]
def below0 : List Frame := [.native { method := ⟨0, 0⟩, args := #[] }]
def about1 : State := aboutOver below0
def p0 : Program := .bare "" "" ""
def e0 : Env := launch0.env 0 0 0
theorem w_frames : about1.frames = Frame.invoking theMethod args0 :: below0 := rfl
set_option maxRecDepth 65536 in
theorem w_args : argsFit about1.vm theMethod args0 = true := by decide +kernel
set_option maxRecDepth 65536 in
theorem w_heap : heapFits about1 = true := by decide +kernel
set_option maxRecDepth 65536 in
theorem w_runnable : about1.curStatus? = some .runnable := by decide +kernel
set_option maxRecDepth 65536 in
theorem w_alone : about1.alone = true := by decide +kernel
set_option maxRecDepth 65536 in
theorem w_named : about1.methodNamed? x = some theMethod := by decide +kernel
set_option maxRecDepth 65536 in
theorem w_hears : about1.hears theMethod below0 = true := by decide +kernel
set_option maxRecDepth 65536 in
theorem w_ripe : about1.ripe theMethod args0 below0 = true := by decide +kernel
theorem w_running : about1.status = .running := rfl
set_option maxRecDepth 65536 in
theorem w_room : about1.hasRoom e0.platform room_1 = true :=
  launch0.hasRoom_least _ room_1 (by decide +kernel) (by decide +kernel) (by decide +kernel) (by decide +kernel) (by decide +kernel) (by decide +kernel)
theorem allAtoms_all (ts : List Jvm.Cond) (a : Array Jvm.Value) (st : Jvm.State) : (allAtoms ts).before a st = ts.all (fun c => c.before a st) := by
  induction ts with
  | nil => rfl
  | cons c t ih =>
    show (Jvm.Cond.and c (allAtoms t)).before a st = _
    rw [Jvm.Cond.before_and, ih, List.all_cons]
def words1 : List Jvm.Cond := Jvm.Cond.code x code maxLocals ret :: tables_1
/-- a 'code' word, met by the world's own term for the bytes: nothing is compared byte by byte -/
theorem code_word {y : MethodName} {bytes : ByteArray} {mx : Nat} {rt : Option FieldType} {a : Array Value} {s : State} {m : MethodId} {meth : Method} {c : Code} (h1 : s.methodNamed? y = some m) (h2 : s.vm.method? m = some meth) (h3 : meth.code = some c) (h4 : c.code = bytes)
    (h5 : (c.maxLocals == mx && c.exceptionTable.isEmpty && decide (c.maxStack ≤ mostOperands) && decide (meth.sig.returnType = rt) && !meth.locks && decide (parseMethodDescriptor y.desc = some meth.sig)) = true) : (Jvm.Cond.code y bytes mx rt).before a s = true := by
  simp only [Bool.and_eq_true, beq_iff_eq, Bool.not_eq_true', decide_eq_true_eq] at h5
  obtain ⟨⟨⟨⟨⟨g1, g2⟩, g3⟩, g4⟩, g5⟩, g6⟩ := h5
  simp [Cond.before, Cond.holds, Cond.value, h1, h2, h3, h4, g1, g2, g3, g4, g5, g6]
def isCode : Jvm.Cond → Bool
  | .code _ _ _ _ => true
  | _ => false
theorem all_split {L : List Jvm.Cond} {P : Jvm.Cond → Bool} (h1 : L.all (fun c => isCode c || P c) = true) (h2 : ∀ c ∈ L.filter isCode, P c = true) : L.all P = true := by
  refine List.all_eq_true.mpr fun c hc => ?_
  have h := List.all_eq_true.mp h1 c hc
  rcases Bool.eq_false_or_eq_true (isCode c) with hi | hi
  · exact h2 c (List.mem_filter.mpr ⟨hc, hi⟩)
  · simpa [hi] using h
set_option maxRecDepth 65536 in
theorem w_c0 : (Jvm.Cond.code x code maxLocals ret).before args0 about1 = true := code_word (m := ⟨1, 7⟩) (meth := k1m7) (c := k1c7) (by decide +kernel) rfl rfl rfl (by decide +kernel)
set_option maxRecDepth 65536 in
theorem w_c1 : (Jvm.Cond.code ({ cls := "com/example/arborway/arborway/sim/WalkRunningCountPinLaw", name := "runs", desc := "(II)[Z" } : Jvm.MethodName) method_3_code (8 : Nat) (Option.some (Jvm.ClassFile.FieldType.array Jvm.ClassFile.FieldType.boolean))).before args0 about1 = true := code_word (m := ⟨1, 2⟩) (meth := k1m2) (c := k1c2) (by decide +kernel) rfl rfl rfl (by decide +kernel)
set_option maxRecDepth 65536 in
theorem w_c2 : (Jvm.Cond.code ({ cls := "com/example/arborway/arborway/sim/WalkRunningCountPinLaw", name := "bit", desc := "(II)Z" } : Jvm.MethodName) method_2_code (2 : Nat) (Option.some Jvm.ClassFile.FieldType.boolean)).before args0 about1 = true := code_word (m := ⟨1, 1⟩) (meth := k1m1) (c := k1c1) (by decide +kernel) rfl rfl rfl (by decide +kernel)
set_option maxRecDepth 65536 in
theorem w_c3 : (Jvm.Cond.code ({ cls := "com/example/arborway/arborway/sim/WalkRunningCountPinLaw", name := "depths", desc := "(II)[I" } : Jvm.MethodName) method_5_code (2 : Nat) (Option.some (Jvm.ClassFile.FieldType.array Jvm.ClassFile.FieldType.int))).before args0 about1 = true := code_word (m := ⟨1, 4⟩) (meth := k1m4) (c := k1c4) (by decide +kernel) rfl rfl rfl (by decide +kernel)
set_option maxRecDepth 65536 in
theorem w_c4 : (Jvm.Cond.code ({ cls := "com/example/arborway/arborway/sim/WalkRunningCountPinLaw", name := "delays", desc := "(II)[D" } : Jvm.MethodName) method_7_code (2 : Nat) (Option.some (Jvm.ClassFile.FieldType.array Jvm.ClassFile.FieldType.double))).before args0 about1 = true := code_word (m := ⟨1, 6⟩) (meth := k1m6) (c := k1c6) (by decide +kernel) rfl rfl rfl (by decide +kernel)
set_option maxRecDepth 65536 in
theorem w_c5 : (Jvm.Cond.code ({ cls := "com/example/arborway/arborway/sim/RunTally$Walk", name := "<init>", desc := "([I[D[ZD)V" } : Jvm.MethodName) prog_76_method_1_code (6 : Nat) (Option.none : Option Jvm.ClassFile.FieldType)).before args0 about1 = true := code_word (m := ⟨3, 0⟩) (meth := k3m0) (c := k3c0) (by decide +kernel) rfl rfl rfl (by decide +kernel)
set_option maxRecDepth 65536 in
theorem w_c6 : (Jvm.Cond.code ({ cls := "java/lang/Record", name := "<init>", desc := "()V" } : Jvm.MethodName) jdk_30_method_1_code (1 : Nat) (Option.none : Option Jvm.ClassFile.FieldType)).before args0 about1 = true := code_word (m := ⟨2, 0⟩) (meth := k2m0) (c := k2c0) (by decide +kernel) rfl rfl rfl (by decide +kernel)
set_option maxRecDepth 65536 in
theorem w_c7 : (Jvm.Cond.code ({ cls := "java/lang/Object", name := "<init>", desc := "()V" } : Jvm.MethodName) object_method_1_code (1 : Nat) (Option.none : Option Jvm.ClassFile.FieldType)).before args0 about1 = true := code_word (m := ⟨0, 0⟩) (meth := k0m0) (c := k0c0) (by decide +kernel) rfl rfl rfl (by decide +kernel)
set_option maxRecDepth 65536 in
theorem w_c8 : (Jvm.Cond.code ({ cls := "com/example/arborway/arborway/sim/RunTally$Walk", name := "runningCount", desc := "()I" } : Jvm.MethodName) prog_76_method_5_code (6 : Nat) (Option.some Jvm.ClassFile.FieldType.int)).before args0 about1 = true := code_word (m := ⟨3, 1⟩) (meth := k3m1) (c := k3c1) (by decide +kernel) rfl rfl rfl (by decide +kernel)
set_option maxRecDepth 65536 in
theorem w_c9 : (Jvm.Cond.code ({ cls := "com/example/arborway/arborway/sim/WalkRunningCountPinLaw", name := "dep", desc := "(II)I" } : Jvm.MethodName) method_4_code (2 : Nat) (Option.some Jvm.ClassFile.FieldType.int)).before args0 about1 = true := code_word (m := ⟨1, 3⟩) (meth := k1m3) (c := k1c3) (by decide +kernel) rfl rfl rfl (by decide +kernel)
set_option maxRecDepth 65536 in
theorem w_c10 : (Jvm.Cond.code ({ cls := "com/example/arborway/arborway/sim/WalkRunningCountPinLaw", name := "del", desc := "(II)D" } : Jvm.MethodName) method_6_code (2 : Nat) (Option.some Jvm.ClassFile.FieldType.double)).before args0 about1 = true := code_word (m := ⟨1, 5⟩) (meth := k1m5) (c := k1c5) (by decide +kernel) rfl rfl rfl (by decide +kernel)
def codes1 : List Jvm.Cond := [Jvm.Cond.code x code maxLocals ret, Jvm.Cond.code ({ cls := "com/example/arborway/arborway/sim/WalkRunningCountPinLaw", name := "runs", desc := "(II)[Z" } : Jvm.MethodName) method_3_code (8 : Nat) (Option.some (Jvm.ClassFile.FieldType.array Jvm.ClassFile.FieldType.boolean)), Jvm.Cond.code ({ cls := "com/example/arborway/arborway/sim/WalkRunningCountPinLaw", name := "bit", desc := "(II)Z" } : Jvm.MethodName) method_2_code (2 : Nat) (Option.some Jvm.ClassFile.FieldType.boolean), Jvm.Cond.code ({ cls := "com/example/arborway/arborway/sim/WalkRunningCountPinLaw", name := "depths", desc := "(II)[I" } : Jvm.MethodName) method_5_code (2 : Nat) (Option.some (Jvm.ClassFile.FieldType.array Jvm.ClassFile.FieldType.int)), Jvm.Cond.code ({ cls := "com/example/arborway/arborway/sim/WalkRunningCountPinLaw", name := "delays", desc := "(II)[D" } : Jvm.MethodName) method_7_code (2 : Nat) (Option.some (Jvm.ClassFile.FieldType.array Jvm.ClassFile.FieldType.double)), Jvm.Cond.code ({ cls := "com/example/arborway/arborway/sim/RunTally$Walk", name := "<init>", desc := "([I[D[ZD)V" } : Jvm.MethodName) prog_76_method_1_code (6 : Nat) (Option.none : Option Jvm.ClassFile.FieldType), Jvm.Cond.code ({ cls := "java/lang/Record", name := "<init>", desc := "()V" } : Jvm.MethodName) jdk_30_method_1_code (1 : Nat) (Option.none : Option Jvm.ClassFile.FieldType), Jvm.Cond.code ({ cls := "java/lang/Object", name := "<init>", desc := "()V" } : Jvm.MethodName) object_method_1_code (1 : Nat) (Option.none : Option Jvm.ClassFile.FieldType), Jvm.Cond.code ({ cls := "com/example/arborway/arborway/sim/RunTally$Walk", name := "runningCount", desc := "()I" } : Jvm.MethodName) prog_76_method_5_code (6 : Nat) (Option.some Jvm.ClassFile.FieldType.int), Jvm.Cond.code ({ cls := "com/example/arborway/arborway/sim/WalkRunningCountPinLaw", name := "dep", desc := "(II)I" } : Jvm.MethodName) method_4_code (2 : Nat) (Option.some Jvm.ClassFile.FieldType.int), Jvm.Cond.code ({ cls := "com/example/arborway/arborway/sim/WalkRunningCountPinLaw", name := "del", desc := "(II)D" } : Jvm.MethodName) method_6_code (2 : Nat) (Option.some Jvm.ClassFile.FieldType.double)]
set_option maxRecDepth 65536 in
theorem codes_eq : words1.filter isCode = codes1 := rfl
theorem w_codes : ∀ c ∈ words1.filter isCode, c.before args0 about1 = true := by
  rw [codes_eq]
  intro c hc
  simp only [codes1, List.mem_cons, List.not_mem_nil, or_false] at hc
  rcases hc with rfl | rfl | rfl | rfl | rfl | rfl | rfl | rfl | rfl | rfl | rfl
  · exact w_c0
  · exact w_c1
  · exact w_c2
  · exact w_c3
  · exact w_c4
  · exact w_c5
  · exact w_c6
  · exact w_c7
  · exact w_c8
  · exact w_c9
  · exact w_c10
set_option maxRecDepth 65536 in
theorem w_t1 : (words1.take 24).all (fun c => isCode c || c.before args0 about1) = true := by decide +kernel
set_option maxRecDepth 65536 in
theorem w_t2 : ((words1.drop 24).take 24).all (fun c => isCode c || c.before args0 about1) = true := by decide +kernel
set_option maxRecDepth 65536 in
theorem w_t3 : ((words1.drop 24).drop 24).all (fun c => isCode c || c.before args0 about1) = true := by decide +kernel
theorem w_tables : (allAtoms (Jvm.Cond.code x code maxLocals ret :: tables_1)).before args0 about1 = true := by
  rw [allAtoms_all]
  show words1.all (fun c => c.before args0 about1) = true
  refine all_split ?_ w_codes
  rw [← List.take_append_drop 24 words1, List.all_append, w_t1, ← List.take_append_drop 24 (words1.drop 24), List.all_append, w_t2, w_t3]
  rfl
set_option maxRecDepth 65536 in
theorem w_case : (Jvm.Cond.and given_1 narrow_1).before args0 about1 = true := by decide +kernel
theorem w_applies : (headSpec (Jvm.Cond.code x code maxLocals ret :: tables_1) room_1).applies x e0.platform about1 = true :=
  (Spec.applies_iff w_frames).mpr ⟨w_running, w_runnable, w_alone, w_named, w_hears, w_ripe, w_room, w_tables⟩
theorem atStart : AtStart classFile x code maxLocals ret World_1 tables_1 room_1 Calls_1 rest_1 Pre_1 launch0 p0 e0 about1 theMethod args0 below0 :=
  ⟨lists_1, trivial, launch0.admits_env _ _ _, launch0.least_env, fairChoices_fair.cas, fairChoices_fair.clock, w_frames, w_args, w_heap, w_applies, trivial, trivial, w_case⟩
end start1
theorem witness_1 : WitnessClaimed_1 := ⟨start1.p0, start1.e0, start1.about1, start1.theMethod, start1.args0, start1.below0, start1.atStart⟩
end Jvm.Pilot.@@N@@
