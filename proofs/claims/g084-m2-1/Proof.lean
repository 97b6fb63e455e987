import JvmDerived
import JvmDerived.Pilot.@@N@@Statement
import JvmDerived.Pilot.@@N@@Code
@@BLOCK:NumsL.lean.txt@@
set_option linter.unusedVariables false
set_option linter.unusedSimpArgs false
namespace Jvm.RoadKit
open Sem ClassFile Op Lib Jvm.Stand Jvm.Free Jvm.LawKit
section New
variable {p : Program} {l : Launch} {e : Env} {R : Room} {s : State} {m : MethodId} {args : Array Value} {below : List Frame} {meth : Method} {c : Code} {T : State} {locs : List Loc} {cells slots : Nat}
theorem retI (X : Stand p l e R s m args below meth c T locs cells slots) (hx : p.tables.exec = Jvm.exec) {pc : Nat} {Ls : Array Slot} {z : Int32} {rest : List Value} (hret : meth.sig.returnType = some .int) (hd : decode c.code pc = .ok (.ireturn, 1)) {fs : List Frame}
    (hl : ∀ (f : JFrame) (acts : List Action), f.method = m → f.locked = none → f.entered = [] → (doReturn e (T.setTop f) acts (some (.int z))).1 = T.setFrames fs) : Steps p.tables e below (T.setTop (mkF m pc Ls (.int z :: rest))) (T.setFrames fs) := by
  have hm' : T.vm.method? m = some meth := X.method'
  have hn : narrow .int (.int z) = .int z := rfl
  show Steps p.tables e below (T.setTop { method := m, pc := pc, locals := Ls, stack := _ :: rest, locked := none }) _
  jvm_step X.here [X.here.top, hx, hd, hm', hret, hn]
  first | (intro acts; rw [hl _ acts rfl rfl rfl]) | rw [hl _ _ rfl rfl rfl]
  exact Steps.refl _
theorem own_retD (X : Stand p l e R s m args below meth c T locs cells slots) (hx : p.tables.exec = Jvm.exec) {pc : Nat} {Ls : Array Slot} {z : UInt64} {rest : List Value} (hret : meth.sig.returnType = some .double) (hd : decode c.code pc = .ok (.dreturn, 1)) {fs : List Frame}
    (hl : ∀ (f : JFrame) (acts : List Action), f.method = m → f.locked = none → f.entered = [] → (doReturn e (T.setTop f) acts (some (.double z))).1 = T.setFrames fs) : Steps p.tables e below (T.setTop (mkF m pc Ls (.double z :: rest))) (T.setFrames fs) := by
  have hm' : T.vm.method? m = some meth := X.method'
  have hn : narrow .double (.double z) = .double z := rfl
  show Steps p.tables e below (T.setTop { method := m, pc := pc, locals := Ls, stack := _ :: rest, locked := none }) _
  jvm_step X.here [X.here.top, hx, hd, hm', hret, hn]
  first | (intro acts; rw [hl _ acts rfl rfl rfl]) | rw [hl _ _ rfl rfl rfl]
  exact Steps.refl _
theorem own_mvM {Z s : State} {a0 args : Array Value} {own host : String} {y : MethodName} {index : Nat} (hZ : Z.Warmed39 s.vm) (w : (Cond.methodLinkNest own index y host).before a0 Z = true) : (Cond.methodLinkNest own index y host).before args s = true := (Cond.methodLinkNest_wide hZ w :)
theorem own_selP {Z s : State} {a0 args : Array Value} {y : MethodName} {n : Nat} (hZ : Z.Warmed39 s.vm) (wi : (Cond.instantiable y.cls n).before a0 Z = true) (wp : (Cond.privateMethod y).before a0 Z = true) (wm : (Cond.instanceMethod y).before a0 Z = true) (hy : y.cls ≠ "java/lang/invoke/MethodHandle" ∧ y.cls ≠ "java/lang/invoke/VarHandle") : (Cond.selects y.cls y y).before args s = true := by
  obtain ⟨c, k, hc, hk, -, hflags, -⟩ := Cond.instantiable_spec (mvT (args := args) hZ wi)
  have hitf : k.isInterface = false := by
    cases hi : k.isInterface
    · rfl
    · simp [hi] at hflags
  exact selects_self_of_private hc hk hitf (Cond.privateMethod_at (mvP hZ wp (args := args))) (mvT hZ wm) hy
def own_G (z : Int32) (f : Nat → Value) : List Value := (List.range z.toNatClampNeg).map f
def own_up (f : Nat → Value) (i : Nat) (v : Value) : Nat → Value := fun k => if k = i then v else f k
def own_all (v : Value) : Nat → Value := fun _ => v
theorem own_G_len (z : Int32) (f : Nat → Value) : (own_G z f).length = z.toNatClampNeg := by simp [own_G]
theorem own_G_at (z : Int32) (f : Nat → Value) (k : Nat) : (own_G z f)[k]? = if k < z.toNatClampNeg then some (f k) else none := by
  unfold own_G
  by_cases h : k < z.toNatClampNeg <;> simp [h]
theorem own_G_get {z : Int32} {f : Nat → Value} {k : Nat} {d : Value} (h : k < z.toNatClampNeg) : (own_G z f).getD k d = f k := by
  rw [List.getD_eq_getElem?_getD, own_G_at, if_pos h]; rfl
theorem own_G_set (z : Int32) (f : Nat → Value) (i : Nat) (v : Value) : (own_G z f).set i v = own_G z (own_up f i v) := by
  apply List.ext_getElem?
  intro k
  rw [List.getElem?_set, own_G_at, own_G_at, own_G_len]
  unfold own_up
  by_cases e : i = k
  · subst e; simp
  · rw [if_neg e, if_neg (show ¬ k = i from fun q => e q.symm)]
theorem own_newG {Z : State} {h : Heap} {a : Addr} {k : ClassId} {z : Int32} {ty : FieldType} (A : Arr Z h a (newA k ty z) ty) (q : ¬ z < 0) : Arv Z h a k ty z (own_G z (own_all (defaultValue ty))) (defaultValue ty) := (Arv.new A q).pad fun i => by
  show (own_G z (own_all (defaultValue ty))).getD i (defaultValue ty) = ([] : List Value).getD i (defaultValue ty)
  rw [List.getD_eq_getElem?_getD, own_G_at]
  split <;> rfl
theorem own_setG {Z : State} {h : Heap} {a : Addr} {k : ClassId} {z : Int32} {i : Nat} {f : Nat → Value} {v d : Value} {ty : FieldType} (F : Arv Z h a k ty z ((own_G z f).set i v) d) : Arv Z h a k ty z (own_G z (own_up f i v)) d := own_G_set z f i v ▸ F
theorem own_ltG {z : Int32} {f : Nat → Value} {i : Nat} (h : i < z.toNatClampNeg) : i < (own_G z f).length := by rw [own_G_len]; exact h
theorem own_specialRef (X : Stand p l e R s m args below meth c T locs cells slots) (hexec : p.tables.exec = Jvm.exec) {own : String} {index : Nat} {y : MethodName} (hy1 : y.name = "<init>")
    (hown : s.vm.findClass own = some m.cls) (hlink : (Cond.methodRef own index y).before args s = true) (hinst : (Cond.instanceMethod y).before args s = true)
    {bytes : ByteArray} {maxL : Nat} (hcode : (Cond.code y bytes maxL none).before args s = true)
    (hy : y.cls ≠ "java/lang/invoke/MethodHandle" ∧ y.cls ≠ "java/lang/invoke/VarHandle")
    {W : Nat} {Pre : Pt → Array Value → Prop} {Post : Pt → Array Value → Option Value → Pt → Prop} (hK : Back l R p e below s args y 3 W Pre Post)
    {g : JFrame} (hg : g.method = m) (hsize : g.locals.size = c.maxLocals) {s₀ : State} (hcome : Steps p.tables e below s₀ (T.setTop g)) {a : Addr} {argsL rest : List Value}
    (hlen : ∀ sig, parseMethodDescriptor y.desc = some sig → argsL.length = sig.parameters.length) (hstack : g.stack = argsL.reverse ++ .ref a :: rest) (hW : 2 * g.monitorRoom + (rest.map fun v => v.category).sum ≤ W)
    (hdg : decode c.code g.pc = .ok (.invokespecial index, 3)) (hpre : ∀ vm₁, s.WarmedH vm₁ → Pre ⟨T.setVm vm₁, locs, cells, slots⟩ (.ref a :: argsL).toArray) :
    ∃ (v : Option Value) (vm₁ : Vm) (B : Pt), s.WarmedH vm₁ ∧ Stand p l e R s m args below meth c B.U B.locs B.cells B.slots ∧ Post ⟨T.setVm vm₁, locs, cells, slots⟩ (.ref a :: argsL).toArray v B ∧
      Steps p.tables e below s₀ (B.U.setTop { g with pc := g.pc + 3, stack := v.toList ++ rest }) := by
  obtain ⟨obj, methO, hnO, hmO, hstO, habO⟩ := Cond.instanceMethod_spec hinst
  obtain ⟨methO', cO, hmO', hcO, hbO, hlO, -, hlockO, -, hsigO⟩ := Cond.code_spec hnO hcode
  cases hmO.symm.trans hmO'
  obtain ⟨kO, hkO, hnameO⟩ := className_of_methodNamed hnO
  obtain ⟨hnameMO, hdescO⟩ := name_of_methodNamed hnO hmO
  have hw := X.warmed
  have hp : (Cond.methodRef own index y).before args (s.setVm T.vm) = true := Cond.methodRef_warmed hw hnO hy hlink
  have hown' : (s.setVm T.vm).vm.findClass own = some m.cls := by show T.vm.findClass own = _; rw [hw.alike.findClass]; exact hown
  obtain ⟨obj', c', hfound', hready, hfind, hnames⟩ := Cond.methodRef_named e hown' hp
  have e1 : obj' = obj := by
    rw [State.methodFound?_setVm_of_named hw.alike hnO hy] at hfound'
    exact Option.some.inj (hfound'.symm.trans (State.methodFound?_of_named hnO hy))
  subst e1
  have e2 : c' = obj'.cls := by
    have q : T.vm.findClass y.cls = some obj'.cls := by rw [hw.alike.findClass]; exact findClass_of_methodNamed hnO
    exact Option.some.inj (hfind.symm.trans q)
  subst e2
  obtain ⟨kO₂, hkO₂, heO₂⟩ := hw.alike.2.2 _ _ hkO
  have hmO₂ : T.vm.method? obj' = some methO := by rw [hw.alike.method?]; exact hmO
  have hfound : lookupSpecial T.vm obj'.cls "<init>" methO.desc = .method obj' := by
    rw [hw.alike.lookupSpecial, hdescO, ← hy1]; exact lookupSpecial_of_named hnO hmO hstO
  have hstep : ∀ target, (∀ acts, Steps p.tables e below (doInvoke e (T.setTop { g with stack := rest }) acts obj' (.ref a :: argsL).toArray).1 target) → Steps p.tables e below (T.setTop g) target := fun target hrest => by
    subst hg
    jvm_step X.here [hexec, hdg, invokespecial.wp_init (e := e) (s := T) (k := kO₂) (meth := methO) (m := obj') (a := a) (args := argsL) (rest := rest) (f := g) X.here.top hnames hready hkO₂ hmO₂ (by rw [hnameMO]; exact hy1) hstO habO hfound (hlen _ hsigO) hstack]
    exact hrest
  have X₁ : Stand p l e R s m args below meth c (T.setVm T.vm) locs cells slots := X
  obtain ⟨v, B, X', hpost, hsteps⟩ := hK m meth c ⟨T.setVm T.vm, locs, cells, slots⟩ { g with stack := rest } (.invokespecial index) obj' (.ref a :: argsL).toArray X₁ hg hsize hdg hW (X₁.named hnO) (hpre T.vm hw)
  exact ⟨v, T.vm, B, hw, X', hpost, (hcome.trans (hstep _ fun acts => by rw [doInvoke_state]; exact Steps.refl _)).trans hsteps⟩
theorem own_mvR {Z : State} {a0 : Array Value} {own : String} {y : MethodName} {index : Nat} (hZ : Z.Warmed39 s.vm) (wi : (Cond.instanceMethod y).before a0 Z = true) (hy : y.cls ≠ "java/lang/invoke/MethodHandle" ∧ y.cls ≠ "java/lang/invoke/VarHandle") (w : (Cond.methodRef own index y).before a0 Z = true) : (Cond.methodRef own index y).before args s = true := by
  obtain ⟨obj, methO, hnO, -⟩ := Cond.instanceMethod_spec wi
  exact (Cond.methodRef_warmed39 hZ hnO hy w :)

/-- the clone of an array -/
theorem own_clone {Z : State} {h : Heap} (X : Stand p l e R s m args below meth c T locs cells slots) (hx : p.tables.exec = Jvm.exec) (hZ : Z.Warmed39 s.vm) {a0 : Array Value} {own ad : String} {index : Nat} (hown : s.vm.findClass own = some m.cls)
    (w1 : (Cond.methodLink own index ⟨ad, "clone", "()Ljava/lang/Object;"⟩).before a0 Z = true) (w2 : (Cond.sameMethod ad "java/lang/Object" "clone" "()Ljava/lang/Object;").before a0 Z = true) (w3 : (Cond.native ⟨"java/lang/Object", "clone", "()Ljava/lang/Object;"⟩).before a0 Z = true)
    (w4 : (Cond.instanceMethod ⟨"java/lang/Object", "clone", "()Ljava/lang/Object;"⟩).before a0 Z = true) (w5 : (Cond.selects ad ⟨ad, "clone", "()Ljava/lang/Object;"⟩ ⟨"java/lang/Object", "clone", "()Ljava/lang/Object;"⟩).before a0 Z = true) (w6 : (Cond.castable ad "java/lang/Cloneable").before a0 Z = true)
    (eT : T.heap = h) {a : Addr} {ty : FieldType} {k : ClassId} {z : Int32} {vs : List Value} {dv : Value} (F : Arv Z h a k ty z vs dv) (E : Exa Z h a ad) {g : JFrame} (hg : g.method = m) (hsize : g.locals.size = c.maxLocals) {rest : List Value} (hst : g.stack = .ref a :: rest) (hd : decode c.code g.pc = .ok (.invokevirtual index, 3))
    (hf : 1 ≤ R.frames) {W cap : Nat} (hW : 2 * g.monitorRoom + (rest.map fun v => v.category).sum ≤ W) (hl : W + 14 ≤ R.locals) (hcap : z.toNatClampNeg ≤ cap) (hc : cells + 1 ≤ R.cells) (hsl : slots + cap ≤ R.slots) :
    ∃ T' h', Stand p l e R s m args below meth c T' locs (cells + 1) (slots + cap) ∧ T'.heap = h' ∧ Ext h h' ∧ Arv Z h' h.size k ty z vs dv ∧ Exa Z h' h.size ad ∧
      ∀ target, Steps p.tables e below (T'.setTop { g with pc := g.pc + 3, stack := .ref h.size :: rest }) target → Steps p.tables e below (T.setTop g) target := by
  obtain ⟨cl, A, q1, S, q3, H, G⟩ := F
  have FC : FitC Z cl := fitC_of A fun i hi v hv => by rw [H i hi] at hv; cases hv; exact G i hi
  obtain ⟨T', h', X', e', ex, A', E', st⟩ := cloneA X hx hZ hown w1 w2 w3 w4 w5 w6 eT A E FC hg hsize hst hd hf hW hl (by rw [S]; exact hcap) hc hsl
  exact ⟨T', h', X', e', ex, ⟨cloneOf cl, A', q1, S, q3, H, G⟩, E', st⟩

abbrev own_e := Addr × ClassId × FieldType × Int32 × Option (Nat → Value)
def own_up2 (F : Nat → Nat → Value) (i j : Nat) (v : Value) : Nat → Nat → Value := fun a b => if a = i then (if b = j then v else F a b) else F a b
def own_upf {α : Type} (f : Nat → α) (i : Nat) (v : α) : Nat → α := fun k => if k = i then v else f k
def own_cn : FieldType → String
  | .int => "[I"
  | .double => "[D"
  | .boolean => "[Z"
  | .array .int => "[[I"
  | _ => "[[D"
def own_ov (Z : State) (k : ClassId) : FieldType → Prop
  | .array .int => OvrA Z k .int "[I"
  | .array .double => OvrA Z k .double "[D"
  | _ => True
def own_nm : Nat → String × String
  | 0 => ("rows", "[[I")
  | 1 => ("values", "[[D")
  | 2 => ("cost", "[D")
  | 3 => ("position", "[I")
  | 4 => ("reduced", "[D")
  | 5 => ("weight", "[D")
  | 6 => ("rowColumns", "[[I")
  | 7 => ("rowValues", "[[D")
  | 8 => ("rowLength", "[I")
  | 9 => ("candidates", "[I")
  | 10 => ("listed", "[Z")
  | 11 => ("rhs", "[D")
  | 12 => ("basis", "[I")
  | 13 => ("basic", "[D")
  | 14 => ("dual", "[D")
  | 15 => ("columnCount", "I")
  | 16 => ("candidateCount", "I")
  | 17 => ("rowCount", "I")
  | 18 => ("capacity", "I")
  | 19 => ("dualsStale", "Z")
  | 20 => ("factored", "Z")
  | _ => ("factors", "Lcom/example/placewright/placewright/solver/BasisFactorization;")
def own_ft : Nat → FieldType
  | 0 => .array (.array .int)
  | 1 => .array (.array .double)
  | 2 => .array .double
  | 3 => .array .int
  | 4 => .array .double
  | 5 => .array .double
  | 6 => .array (.array .int)
  | 7 => .array (.array .double)
  | 8 => .array .int
  | 9 => .array .int
  | 10 => .array .boolean
  | 11 => .array .double
  | 12 => .array .int
  | 13 => .array .double
  | 14 => .array .double
  | 15 => .int
  | 16 => .int
  | 17 => .int
  | 18 => .int
  | 19 => .boolean
  | 20 => .boolean
  | _ => .object "com/example/placewright/placewright/solver/BasisFactorization"
def own_ty (i : Nat) : FieldType := match own_ft i with
  | .array t => t
  | t => t
def own_V0 (i : Nat) : Value := defaultValue (own_ft i)
def own_ok (Z : State) (n0 : Nat) (h : Heap) (x : own_e) : Prop := n0 ≤ x.1 ∧ Exa Z h x.1 (own_cn x.2.2.1) ∧ own_ov Z x.2.1 x.2.2.1 ∧ ∃ g, Arv Z h x.1 x.2.1 x.2.2.1 x.2.2.2.1 (own_G x.2.2.2.1 g) (defaultValue x.2.2.1) ∧ (x.2.2.2.2 = none ∨ x.2.2.2.2 = some g)
def own_ads (n : Nat) (t : Addr) (A : Nat → Addr) (I : List own_e) : List Addr := I.map Prod.fst ++ t :: (List.range n).map A
/-- what stands of the RevisedSimplex at t: its fields V, the first n of them arrays of 16 places that hold F, and the other arrays I; all of them different -/
def own_R (n : Nat) (Z : State) (n0 : Nat) (h : Heap) (t : Addr) (A : Nat → Addr) (K : Nat → ClassId) (F : Nat → Nat → Value) (V : Nat → Value) (I : List own_e) : Prop :=
  n0 ≤ t ∧ Exa Z h t "com/example/placewright/placewright/solver/RevisedSimplex" ∧ (∀ i, i < 22 → Fld Z h t "com/example/placewright/placewright/solver/RevisedSimplex" (own_nm i).1 (own_nm i).2 (V i)) ∧
  (∀ i, i < n → V i = .ref (A i) ∧ own_ok Z n0 h ⟨A i, K i, own_ty i, 16, some (F i)⟩) ∧ (∀ x ∈ I, own_ok Z n0 h x) ∧ (own_ads n t A I).Nodup
def own_S (Z : State) : Prop := ∀ i j, i < 22 → j < 22 → i ≠ j → slotOf Z "com/example/placewright/placewright/solver/RevisedSimplex" (own_nm i).1 (own_nm i).2 ≠ slotOf Z "com/example/placewright/placewright/solver/RevisedSimplex" (own_nm j).1 (own_nm j).2
theorem own_nms : ∀ i, i < 22 → ∀ j, j < 22 → i ≠ j → (own_nm i).1 ≠ (own_nm j).1 := by decide +kernel
theorem own_fts : ∀ i, i < 22 → parseFieldDescriptor (own_nm i).2 = some (own_ft i) := by decide +kernel
theorem own_S_of {Z : State} {a0 : Array Value} (L : ∀ i, i < 22 → Laid Z a0 "com/example/placewright/placewright/solver/RevisedSimplex" "com/example/placewright/placewright/solver/RevisedSimplex" (own_nm i).1 (own_nm i).2) : own_S Z := fun i j hi hj e =>
  slot_ne (L i hi) (L j hj) (own_nms i hi j hj e) (own_fts i hi) (own_fts j hj)
def own_has : Nat → List own_e → Prop
  | 0, _ => True
  | _ + 1, [] => False
  | k + 1, _ :: I => own_has k I
theorem own_has_len : ∀ {k : Nat} {I : List own_e}, own_has k I → k ≤ I.length
  | 0, _, _ => Nat.zero_le _
  | k + 1, _ :: I, h => Nat.succ_le_succ (own_has_len (k := k) (I := I) h)
def own_e0 : own_e := ⟨0, 0, .int, 0, none⟩
section Simplex
variable {Z : State} {n n0 : Nat} {h h' : Heap} {t : Addr} {A : Nat → Addr} {K : Nat → ClassId} {F : Nat → Nat → Value} {V : Nat → Value} {I : List own_e} {x y : own_e} {v : Value} {i j : Nat} {a : Addr} {k : ClassId} {ty : FieldType} {z J : Int32} {fo : Option (Nat → Value)} {f : Nat → Value}
theorem own_inj : ∀ {I : List own_e} {x y : own_e}, (I.map Prod.fst).Nodup → x ∈ I → y ∈ I → x.1 = y.1 → x = y
  | w :: I, x, y, N, hx, hy, e => by
    rw [List.map_cons, List.nodup_cons] at N
    rcases List.mem_cons.mp hx with hx | hx <;> rcases List.mem_cons.mp hy with hy | hy
    · rw [hx, hy]
    · exact absurd (List.mem_map.mpr ⟨y, hy, by rw [← e, hx]⟩) N.1
    · exact absurd (List.mem_map.mpr ⟨x, hx, by rw [e, hy]⟩) N.1
    · exact own_inj N.2 hx hy e
theorem own_ok_ext (H : own_ok Z n0 h x) (E : Ext h h') : own_ok Z n0 h' x := ⟨H.1, H.2.1.ext E, H.2.2.1, by obtain ⟨g, a, b⟩ := H.2.2.2; exact ⟨g, a.ext E, b⟩⟩
theorem own_ok_wr {sl : Nat} (H : own_ok Z n0 h x) (W : Wr h h' a sl v) (q : x.1 ≠ a) : own_ok Z n0 h' x := ⟨H.1, H.2.1.wr W, H.2.2.1, by obtain ⟨g, a, b⟩ := H.2.2.2; exact ⟨g, a.other W q, b⟩⟩
theorem own_ok_keep {ws : List Addr} (H : own_ok Z n0 h x) (Kp : Keep h h' ws) (q : x.1 ∉ ws) : own_ok Z n0 h' x := ⟨H.1, H.2.1.keep Kp, H.2.2.1, by obtain ⟨g, a, b⟩ := H.2.2.2; exact ⟨g, a.keep Kp q, b⟩⟩
theorem own_ok_st (H : own_ok Z n0 h ⟨a, k, ty, z, fo⟩) (hJ : J.toNatClampNeg = j) (hj : j < z.toNatClampNeg) (hv : fits ty v = true) (W : Wr h h' a J.toNatClampNeg v) (ff : Option (Nat → Value)) (hff : ∀ g, fo = none ∨ fo = some g → ff = none ∨ ff = some (own_up g j v)) : own_ok Z n0 h' ⟨a, k, ty, z, ff⟩ := by
  obtain ⟨h1, h2, h3, g, ⟨c, Ar, q1, S, q3, H', G⟩, b⟩ := H
  exact ⟨h1, h2.wr W, h3, own_up g j v, own_setG (Arv.set Ar q1 S q3 H' G hv W j hJ (own_ltG hj)), hff g b⟩
theorem own_R_lt (B : own_R n Z n0 h t A K F V I) : ∀ w ∈ own_ads n t A I, w < h.size := fun w hw => by
  rcases List.mem_append.mp hw with q | q
  · obtain ⟨x, hx, rfl⟩ := List.mem_map.mp q
    exact (B.2.2.2.2.1 x hx).2.1.lt
  · rcases List.mem_cons.mp q with rfl | q
    · exact B.2.1.lt
    · obtain ⟨i, hi, rfl⟩ := List.mem_map.mp q
      exact (B.2.2.2.1 i (List.mem_range.mp hi)).2.2.1.lt
theorem own_R_out {w : Addr} (B : own_R n Z n0 h t A K F V I) (le : h.size ≤ w) : w ∉ own_ads n t A I := fun q => Nat.lt_irrefl _ (Nat.lt_of_lt_of_le (own_R_lt B w q) le)
theorem own_R_sz (B : own_R n Z n0 h t A K F V I) : n0 ≤ h.size := Nat.le_of_lt (Nat.lt_of_le_of_lt B.1 B.2.1.lt)
theorem own_R_exa (B : own_R n Z n0 h t A K F V I) : Exa Z h t "com/example/placewright/placewright/solver/RevisedSimplex" := B.2.1
theorem own_nd (B : own_R n Z n0 h t A K F V I) : (I.map Prod.fst).Nodup ∧ (t :: (List.range n).map A).Nodup ∧ ∀ p ∈ I.map Prod.fst, ∀ q ∈ t :: (List.range n).map A, p ≠ q := List.nodup_append.mp B.2.2.2.2.2
theorem own_memA (hi : i < n) : A i ∈ (List.range n).map A := List.mem_map.mpr ⟨i, List.mem_range.mpr hi, rfl⟩
theorem own_ne_t (B : own_R n Z n0 h t A K F V I) (hi : i < n) : A i ≠ t := fun e => (List.nodup_cons.mp (own_nd B).2.1).1 (e ▸ own_memA hi)
theorem own_ne_A (B : own_R n Z n0 h t A K F V I) (hi : i < n) (hj : j < n) (e : i ≠ j) : A i ≠ A j := by
  have P := List.pairwise_iff_getElem.mp (List.nodup_cons.mp (own_nd B).2.1).2
  rcases Nat.lt_or_gt_of_ne e with w | w
  · have := P i j (by simpa using hi) (by simpa using hj) w
    simpa using this
  · have := P j i (by simpa using hj) (by simpa using hi) w
    simpa using fun q : A i = A j => this (by simpa using q.symm)
theorem own_ne_xt (B : own_R n Z n0 h t A K F V I) (hx : x ∈ I) : x.1 ≠ t := (own_nd B).2.2 _ (List.mem_map.mpr ⟨x, hx, rfl⟩) _ (List.mem_cons_self ..)
theorem own_ne_xA (B : own_R n Z n0 h t A K F V I) (hx : x ∈ I) (hi : i < n) : x.1 ≠ A i := (own_nd B).2.2 _ (List.mem_map.mpr ⟨x, hx, rfl⟩) _ (List.mem_cons_of_mem _ (own_memA hi))
theorem own_pk (B : own_R n Z n0 h t A K F V I) (i : Nat) (hi : i < n) : own_ok Z n0 h ⟨A i, K i, own_ty i, 16, some (F i)⟩ := (B.2.2.2.1 i hi).2
theorem own_en {m : Nat} (B : own_R n Z n0 h t A K F V I) (hm : I[m]? = some x) : own_ok Z n0 h x := B.2.2.2.2.1 x (List.mem_of_getElem? hm)
theorem own_ga (B : own_R n Z n0 h t A K F V I) (i : Nat) (hi : i < n) (hi2 : i < 22) : Fld Z h t "com/example/placewright/placewright/solver/RevisedSimplex" (own_nm i).1 (own_nm i).2 (.ref (A i)) := (B.2.2.2.1 i hi).1 ▸ B.2.2.1 i hi2
theorem own_gs (B : own_R n Z n0 h t A K F V I) (i : Nat) (hi : i < 22) (hv : V i = v) : Fld Z h t "com/example/placewright/placewright/solver/RevisedSimplex" (own_nm i).1 (own_nm i).2 v := hv ▸ B.2.2.1 i hi
theorem own_R_ext (B : own_R n Z n0 h t A K F V I) (E : Ext h h') : own_R n Z n0 h' t A K F V I :=
  ⟨B.1, B.2.1.ext E, fun i hi => (B.2.2.1 i hi).ext E, fun i hi => ⟨(B.2.2.2.1 i hi).1, own_ok_ext (B.2.2.2.1 i hi).2 E⟩, fun x hx => own_ok_ext (B.2.2.2.2.1 x hx) E, B.2.2.2.2.2⟩
theorem own_R_keep {ws : List Addr} (B : own_R n Z n0 h t A K F V I) (Kp : Keep h h' ws) (q : ∀ w ∈ ws, w ∉ own_ads n t A I) : own_R n Z n0 h' t A K F V I :=
  ⟨B.1, B.2.1.keep Kp, fun i hi => (B.2.2.1 i hi).keep Kp (fun w => q _ w (List.mem_append_right _ (List.mem_cons_self ..))), fun i hi => ⟨(B.2.2.2.1 i hi).1, own_ok_keep (B.2.2.2.1 i hi).2 Kp (fun w => q _ w (List.mem_append_right _ (List.mem_cons_of_mem _ (own_memA hi))))⟩,
    fun x hx => own_ok_keep (B.2.2.2.2.1 x hx) Kp (fun w => q _ w (List.mem_append_left _ (List.mem_map.mpr ⟨x, hx, rfl⟩))), B.2.2.2.2.2⟩
theorem own_R_push (B : own_R n Z n0 h t A K F V I) (E : Ext h h') (H : own_ok Z n0 h' x) (le : h.size ≤ x.1) : own_R n Z n0 h' t A K F V (x :: I) :=
  have B' := own_R_ext B E
  ⟨B'.1, B'.2.1, B'.2.2.1, B'.2.2.2.1, fun y hy => (List.mem_cons.mp hy).elim (fun q => q ▸ H) (B'.2.2.2.2.1 y), List.nodup_cons.mpr ⟨own_R_out B le, B.2.2.2.2.2⟩⟩
theorem own_R_put (B : own_R n Z n0 h t A K F V I) (S : own_S Z) (i : Nat) (hi : n ≤ i) (hi2 : i < 22) (W : Wr h h' t (slotOf Z "com/example/placewright/placewright/solver/RevisedSimplex" (own_nm i).1 (own_nm i).2) v) : own_R n Z n0 h' t A K F (own_up V i v) I := by
  refine ⟨B.1, B.2.1.wr W, fun j hj => ?_, fun j hj => ⟨?_, own_ok_wr (B.2.2.2.1 j hj).2 W (own_ne_t B hj)⟩, fun x hx => own_ok_wr (B.2.2.2.2.1 x hx) W (own_ne_xt B hx), B.2.2.2.2.2⟩
  · by_cases e : j = i
    · subst e
      have q : own_up V j v j = v := by simp [own_up]
      rw [q]; exact (B.2.2.1 j hj).same W
    · have q : own_up V i v j = V j := by simp [own_up, e]
      rw [q]; exact (B.2.2.1 j hj).other W (Or.inr (S j i hj hi2 e))
  · have q : own_up V i v j = V j := by simp [own_up, show j ≠ i by omega]
    rw [q]; exact (B.2.2.2.1 j hj).1
theorem own_R_st (B : own_R n Z n0 h t A K F V I) (i j : Nat) (hi : i < n) (hJ : J.toNatClampNeg = j) (hj : j < 16) (hv : fits (own_ty i) v = true) (W : Wr h h' (A i) J.toNatClampNeg v) : own_R n Z n0 h' t A K (own_up2 F i j v) V I := by
  refine ⟨B.1, B.2.1.wr W, fun k hk => (B.2.2.1 k hk).other W (Or.inl (Ne.symm (own_ne_t B hi))), fun k hk => ⟨(B.2.2.2.1 k hk).1, ?_⟩, fun x hx => own_ok_wr (B.2.2.2.2.1 x hx) W (own_ne_xA B hx hi), B.2.2.2.2.2⟩
  by_cases e : k = i
  · subst e
    have q : own_up2 F k j v k = own_up (F k) j v := by funext b; simp [own_up2, own_up]
    rw [q]; exact own_ok_st (own_pk B k hk) hJ (by simpa using hj) hv W _ fun g hg => Or.inr (by rcases hg with hg | hg <;> cases hg; rfl)
  · have q : own_up2 F i j v k = F k := by funext b; simp [own_up2, e]
    rw [q]; exact own_ok_wr (own_pk B k hk) W (own_ne_A B hk hi e)
theorem own_R_se (B : own_R n Z n0 h t A K F V I) (hx : (⟨a, k, ty, z, none⟩ : own_e) ∈ I) (hJ : J.toNatClampNeg = j) (hj : j < z.toNatClampNeg) (hv : fits ty v = true) (W : Wr h h' a J.toNatClampNeg v) : own_R n Z n0 h' t A K F V I := by
  refine ⟨B.1, B.2.1.wr W, fun i hi => (B.2.2.1 i hi).other W (Or.inl (Ne.symm (own_ne_xt B hx))), fun i hi => ⟨(B.2.2.2.1 i hi).1, own_ok_wr (B.2.2.2.1 i hi).2 W (Ne.symm (own_ne_xA B hx hi))⟩, fun y hy => ?_, B.2.2.2.2.2⟩
  by_cases e : y.1 = a
  · cases own_inj (own_nd B).1 hy hx e
    exact own_ok_st (B.2.2.2.2.1 _ hx) hJ hj hv W _ fun _ _ => Or.inl rfl
  · exact own_ok_wr (B.2.2.2.2.1 y hy) W e
theorem own_R_sh (B : own_R n Z n0 h t A K F V (⟨a, k, ty, z, some f⟩ :: I)) (hJ : J.toNatClampNeg = j) (hj : j < z.toNatClampNeg) (hv : fits ty v = true) (W : Wr h h' a J.toNatClampNeg v) : own_R n Z n0 h' t A K F V (⟨a, k, ty, z, some (own_up f j v)⟩ :: I) := by
  have hx : (⟨a, k, ty, z, some f⟩ : own_e) ∈ (⟨a, k, ty, z, some f⟩ : own_e) :: I := List.mem_cons_self ..
  refine ⟨B.1, B.2.1.wr W, fun i hi => (B.2.2.1 i hi).other W (Or.inl (Ne.symm (own_ne_xt B hx))), fun i hi => ⟨(B.2.2.2.1 i hi).1, own_ok_wr (B.2.2.2.1 i hi).2 W (Ne.symm (own_ne_xA B hx hi))⟩, fun y hy => ?_, B.2.2.2.2.2⟩
  rcases List.mem_cons.mp hy with rfl | hy
  · exact own_ok_st (B.2.2.2.2.1 _ hx) hJ hj hv W _ fun g hg => Or.inr (by rcases hg with hg | hg <;> cases hg; rfl)
  · refine own_ok_wr (B.2.2.2.2.1 y (List.mem_cons_of_mem _ hy)) W fun e => ?_
    have N := (own_nd B).1
    rw [List.map_cons, List.nodup_cons] at N
    exact N.1 (List.mem_map.mpr ⟨y, hy, e⟩)
theorem own_R_kh {g : Nat → Value} (B : own_R n Z n0 h t A K F V (⟨a, k, ty, z, fo⟩ :: I)) (Kp : Keep h h' [a]) (H : Arv Z h' a k ty z (own_G z g) (defaultValue ty)) : own_R n Z n0 h' t A K F V (⟨a, k, ty, z, none⟩ :: I) := by
  have hx : (⟨a, k, ty, z, fo⟩ : own_e) ∈ (⟨a, k, ty, z, fo⟩ : own_e) :: I := List.mem_cons_self ..
  have nin : ∀ {w : Addr}, w ≠ a → w ∉ [a] := fun q r => q (List.mem_singleton.mp r)
  refine ⟨B.1, B.2.1.keep Kp, fun i hi => (B.2.2.1 i hi).keep Kp (nin (Ne.symm (own_ne_xt B hx))), fun i hi => ⟨(B.2.2.2.1 i hi).1, own_ok_keep (B.2.2.2.1 i hi).2 Kp (nin (Ne.symm (own_ne_xA B hx hi)))⟩, fun y hy => ?_, B.2.2.2.2.2⟩
  rcases List.mem_cons.mp hy with rfl | hy
  · have O := B.2.2.2.2.1 _ hx
    exact ⟨O.1, O.2.1.keep Kp, O.2.2.1, g, H, Or.inl rfl⟩
  · refine own_ok_keep (B.2.2.2.2.1 y (List.mem_cons_of_mem _ hy)) Kp (nin fun e => ?_)
    have N := (own_nd B).1
    rw [List.map_cons, List.nodup_cons] at N
    exact N.1 (List.mem_map.mpr ⟨y, hy, e⟩)
theorem own_R_forget (B : own_R n Z n0 h t A K F V (⟨a, k, ty, z, fo⟩ :: I)) : own_R n Z n0 h t A K F V (⟨a, k, ty, z, none⟩ :: I) := by
  refine ⟨B.1, B.2.1, B.2.2.1, B.2.2.2.1, fun y hy => ?_, B.2.2.2.2.2⟩
  rcases List.mem_cons.mp hy with rfl | hy
  · obtain ⟨h1, h2, h3, g, h4, -⟩ := B.2.2.2.2.1 _ (List.mem_cons_self ..)
    exact ⟨h1, h2, h3, g, h4, Or.inl rfl⟩
  · exact B.2.2.2.2.1 y (List.mem_cons_of_mem _ hy)
theorem own_R_pick (B : own_R n Z n0 h t A K F V I) (k : Nat) (ix : List Nat) (hk : own_has k I) (h1 : ix.Nodup) (h2 : ∀ i ∈ ix, i < k) : own_R n Z n0 h t A K F V (ix.map (fun i => I.getD i own_e0) ++ I.drop k) := by
  have hl := own_has_len hk
  have gd : ∀ i, (hi : i < I.length) → I.getD i own_e0 = I[i] := fun i hi => by rw [List.getD_eq_getElem?_getD, List.getElem?_eq_getElem hi]; rfl
  obtain ⟨N1, N2, N3⟩ := own_nd B
  have sub : ∀ y ∈ ix.map (fun i => I.getD i own_e0) ++ I.drop k, y ∈ I := fun y hy => by
    rcases List.mem_append.mp hy with q | q
    · obtain ⟨i, hi, rfl⟩ := List.mem_map.mp q
      have w := h2 i hi
      show I.getD i own_e0 ∈ I
      rw [gd i (by omega)]; exact List.getElem_mem _
    · exact List.mem_of_mem_drop q
  have P := List.pairwise_iff_getElem.mp N1
  have ne : ∀ i j, (hi : i < I.length) → (hj : j < I.length) → i ≠ j → I[i].1 ≠ I[j].1 := fun i j hi hj e => by
    rcases Nat.lt_or_gt_of_ne e with w | w
    · have := P i j (by simpa using hi) (by simpa using hj) w
      simpa using this
    · have := P j i (by simpa using hj) (by simpa using hi) w
      exact fun q => this (by simpa using q.symm)
  refine ⟨B.1, B.2.1, B.2.2.1, B.2.2.2.1, fun y hy => B.2.2.2.2.1 y (sub y hy), List.nodup_append.mpr ⟨?_, N2, fun p hp q hq => ?_⟩⟩
  · rw [List.map_append]
    refine List.nodup_append.mpr ⟨?_, ?_, ?_⟩
    · rw [List.map_map]
      refine List.pairwise_map.mpr (List.Pairwise.imp_of_mem ?_ h1)
      intro p q hp hq e
      have wp := h2 p hp
      have wq := h2 q hq
      show (I.getD p own_e0).1 ≠ (I.getD q own_e0).1
      rw [gd p (by omega), gd q (by omega)]
      exact ne p q (by omega) (by omega) e
    · rw [List.map_drop]; exact N1.sublist (List.drop_sublist _ _)
    · intro p hp q hq
      obtain ⟨u, hu, rfl⟩ := List.mem_map.mp hp
      obtain ⟨w, hw, rfl⟩ := List.mem_map.mp hq
      obtain ⟨i, hi, rfl⟩ := List.mem_map.mp hu
      have wi := h2 i hi
      obtain ⟨r, hr, er⟩ := List.getElem_of_mem hw
      rw [List.getElem_drop] at er
      have hr' : r < I.length - k := by simpa using hr
      show (I.getD i own_e0).1 ≠ w.1
      rw [gd i (by omega), ← er]
      exact ne i (k + r) (by omega) (by omega) (by omega)
  · obtain ⟨u, hu, rfl⟩ := List.mem_map.mp hp
    exact N3 _ (List.mem_map.mpr ⟨u, sub u hu, rfl⟩) q hq
theorem own_R_adopt (B : own_R n Z n0 h t A K F V (⟨a, k, own_ty n, 16, some f⟩ :: I)) (S : own_S Z) (hn : n < 22) (W : Wr h h' t (slotOf Z "com/example/placewright/placewright/solver/RevisedSimplex" (own_nm n).1 (own_nm n).2) (.ref a)) :
    own_R (n + 1) Z n0 h' t (own_upf A n a) (own_upf K n k) (own_upf F n f) (own_up V n (.ref a)) I := by
  have B' := own_R_put B S n (Nat.le_refl _) hn W
  have lo : ∀ i, i < n → own_upf A n a i = A i := fun i hi => by simp [own_upf, show i ≠ n by omega]
  have eP : (List.range (n + 1)).map (own_upf A n a) = (List.range n).map A ++ [a] := by
    rw [List.range_succ, List.map_append]
    congr 1
    · exact List.map_congr_left fun i hi => lo i (List.mem_range.mp hi)
    · simp [own_upf]
  refine ⟨B'.1, B'.2.1, B'.2.2.1, fun i hi => ?_, fun y hy => B'.2.2.2.2.1 y (List.mem_cons_of_mem _ hy), ?_⟩
  · by_cases e : i = n
    · subst e
      refine ⟨by simp [own_up, own_upf], ?_⟩
      have := B'.2.2.2.2.1 _ (List.mem_cons_self ..)
      have e1 : own_upf A i a i = a := by simp [own_upf]
      have e2 : own_upf K i k i = k := by simp [own_upf]
      have e3 : own_upf F i f i = f := by simp [own_upf]
      rw [e1, e2, e3]; exact this
    · have hi' : i < n := by omega
      have e2 : own_upf K n k i = K i := by simp [own_upf, e]
      have e3 : own_upf F n f i = F i := by simp [own_upf, e]
      rw [lo i hi', e2, e3]
      exact B'.2.2.2.1 i hi'
  · show (I.map Prod.fst ++ t :: (List.range (n + 1)).map (own_upf A n a)).Nodup
    rw [eP]
    have N := B.2.2.2.2.2
    have N' : (a :: (I.map Prod.fst ++ t :: (List.range n).map A)).Nodup := N
    rw [List.nodup_cons] at N'
    have : ((I.map Prod.fst ++ t :: (List.range n).map A) ++ [a]).Nodup := List.nodup_append.mpr ⟨N'.2, List.nodup_cons.mpr ⟨List.not_mem_nil, List.nodup_nil⟩, fun p hp q hq => by
      exact fun e => N'.1 ((e.trans (List.mem_singleton.mp hq)) ▸ hp)⟩
    simpa [List.append_assoc] using this
theorem own_R_new (E : Exa Z h t "com/example/placewright/placewright/solver/RevisedSimplex") (g : n0 ≤ t) (D : ∀ i, i < 22 → Fld Z h t "com/example/placewright/placewright/solver/RevisedSimplex" (own_nm i).1 (own_nm i).2 (own_V0 i)) : own_R 0 Z n0 h t (fun _ => 0) (fun _ => 0) (fun _ _ => .null) own_V0 [] :=
  ⟨g, E, D, fun i hi => absurd hi (Nat.not_lt_zero _), fun x hx => (nomatch hx), List.nodup_cons.mpr ⟨List.not_mem_nil, List.nodup_nil⟩⟩
end Simplex

section Step
variable {Z : State} {n n0 : Nat} {h h' : Heap} {t : Addr} {A : Nat → Addr} {K : Nat → ClassId} {F : Nat → Nat → Value} {V : Nat → Value} {I : List own_e} {x : own_e} {v : Value} {i j : Nat} {a : Addr} {k : ClassId} {ty : FieldType} {z J : Int32} {f : Nat → Value} {fo : Option (Nat → Value)} {a0 : Array Value}
theorem own_inj16 {c : Cell} (S : c.slots.size = z.toNatClampNeg) (hJ : (¬ J < 0 ∧ J < z) ∧ J.toNatClampNeg = j) : ¬ (J < 0 ∨ c.slots.size ≤ J.toNatClampNeg) ∧ j < z.toNatClampNeg := by
  have q := inb_of (j := J) S hJ.1
  refine ⟨q, ?_⟩
  rw [← hJ.2, ← S]; exact Nat.lt_of_not_le fun w => q (Or.inr w)
theorem own_len (X : Stand p l e R s m args below meth c T locs cells slots) (hx : p.tables.exec = Jvm.exec) (hZ : Z.Warmed39 s.vm) (eT : T.heap = h) (H : own_ok Z n0 h ⟨a, k, ty, z, fo⟩) {g : JFrame} (hg : g.method = m) {rest : List Value} (hs : g.stack = .ref a :: rest) (hd : decode c.code g.pc = .ok (.arraylength, 1)) (target : State)
    (hr : Steps p.tables e below (T.setTop { g with pc := g.pc + 1, stack := .int z :: rest }) target) : Steps p.tables e below (T.setTop g) target := by
  obtain ⟨-, -, -, g', ⟨c', Ar, q1, S, q3, H', G⟩, -⟩ := H
  refine X.arraylength hx (by rw [eT]; exact Ar.1) (State.isArrayOf_alike hZ.alike Ar.2.1) hg hs hd _ ?_
  rw [len_of S q3]; exact hr
theorem own_ldI (X : Stand p l e R s m args below meth c T locs cells slots) (hx : p.tables.exec = Jvm.exec) (hZ : Z.Warmed39 s.vm) (eT : T.heap = h) (H : own_ok Z n0 h ⟨a, k, .int, z, some f⟩) (j : Nat) {J : Int32} (hJ : (¬ J < 0 ∧ J < z) ∧ J.toNatClampNeg = j) (hv : f j = v) {g : JFrame} (hg : g.method = m) {rest : List Value} (hs : g.stack = .int J :: .ref a :: rest) (hd : decode c.code g.pc = .ok (.iaload, 1)) (target : State)
    (hr : Steps p.tables e below (T.setTop { g with pc := g.pc + 1, stack := v :: rest }) target) : Steps p.tables e below (T.setTop g) target := by
  obtain ⟨-, -, -, g', ⟨c', Ar, q1, S, q3, H', G⟩, b⟩ := H
  rcases b with b | b <;> cases b
  obtain ⟨q, q'⟩ := own_inj16 S hJ
  exact X.iaload hx (by rw [eT]; exact Ar.1) (State.isArrayOf_alike hZ.alike Ar.2.1) Ar.2.2 q (H'.at q (by rw [hJ.2]; exact (own_G_get q').trans hv)) hg hs hd _ hr
theorem own_ldD (X : Stand p l e R s m args below meth c T locs cells slots) (hx : p.tables.exec = Jvm.exec) (hZ : Z.Warmed39 s.vm) (eT : T.heap = h) (H : own_ok Z n0 h ⟨a, k, .double, z, some f⟩) (j : Nat) {J : Int32} (hJ : (¬ J < 0 ∧ J < z) ∧ J.toNatClampNeg = j) (hv : f j = v) {g : JFrame} (hg : g.method = m) {rest : List Value} (hs : g.stack = .int J :: .ref a :: rest) (hd : decode c.code g.pc = .ok (.daload, 1)) (target : State)
    (hr : Steps p.tables e below (T.setTop { g with pc := g.pc + 1, stack := v :: rest }) target) : Steps p.tables e below (T.setTop g) target := by
  obtain ⟨-, -, -, g', ⟨c', Ar, q1, S, q3, H', G⟩, b⟩ := H
  rcases b with b | b <;> cases b
  obtain ⟨q, q'⟩ := own_inj16 S hJ
  exact X.daload hx (by rw [eT]; exact Ar.1) (State.isArrayOf_alike hZ.alike Ar.2.1) Ar.2.2 q (H'.at q (by rw [hJ.2]; exact (own_G_get q').trans hv)) hg hs hd _ hr
theorem own_ldZ (X : Stand p l e R s m args below meth c T locs cells slots) (hx : p.tables.exec = Jvm.exec) (hZ : Z.Warmed39 s.vm) (eT : T.heap = h) (H : own_ok Z n0 h ⟨a, k, .boolean, z, some f⟩) (j : Nat) {J : Int32} (hJ : (¬ J < 0 ∧ J < z) ∧ J.toNatClampNeg = j) (hv : f j = v) {g : JFrame} (hg : g.method = m) {rest : List Value} (hs : g.stack = .int J :: .ref a :: rest) (hd : decode c.code g.pc = .ok (.baload, 1)) (target : State)
    (hr : Steps p.tables e below (T.setTop { g with pc := g.pc + 1, stack := v :: rest }) target) : Steps p.tables e below (T.setTop g) target := by
  obtain ⟨-, -, -, g', ⟨c', Ar, q1, S, q3, H', G⟩, b⟩ := H
  rcases b with b | b <;> cases b
  obtain ⟨q, q'⟩ := own_inj16 S hJ
  exact X.baloadBooleans hx (by rw [eT]; exact Ar.1) (State.isArrayOf_alike hZ.alike Ar.2.1) Ar.2.2 q (H'.at q (by rw [hJ.2]; exact (own_G_get q').trans hv)) hg hs hd _ hr
theorem own_ldR (X : Stand p l e R s m args below meth c T locs cells slots) (hx : p.tables.exec = Jvm.exec) (hZ : Z.Warmed39 s.vm) (eT : T.heap = h) (H : own_ok Z n0 h ⟨a, k, .array ty, z, some f⟩) (j : Nat) {J : Int32} (hJ : (¬ J < 0 ∧ J < z) ∧ J.toNatClampNeg = j) (hv : f j = v) {g : JFrame} (hg : g.method = m) {rest : List Value} (hs : g.stack = .int J :: .ref a :: rest) (hd : decode c.code g.pc = .ok (.aaload, 1)) (target : State)
    (hr : Steps p.tables e below (T.setTop { g with pc := g.pc + 1, stack := v :: rest }) target) : Steps p.tables e below (T.setTop g) target := by
  obtain ⟨-, -, -, g', ⟨c', Ar, q1, S, q3, H', G⟩, b⟩ := H
  rcases b with b | b <;> cases b
  obtain ⟨q, q'⟩ := own_inj16 S hJ
  exact X.aaload hx (by rw [eT]; exact Ar.1) (State.isArrayOf_alike hZ.alike Ar.2.1) rfl Ar.2.2 q (H'.at q (by rw [hJ.2]; exact (own_G_get q').trans hv)) hg hs hd _ hr
theorem own_stI (X : Stand p l e R s m args below meth c T locs cells slots) (hx : p.tables.exec = Jvm.exec) (hZ : Z.Warmed39 s.vm) (eT : T.heap = h) (B : own_R n Z n0 h t A K F V I) (N : Fr n0 locs) (i j : Nat) (hi : i < n) (ht : own_ty i = .int) {J w : Int32} (hJ : (¬ J < 0 ∧ J < 16) ∧ J.toNatClampNeg = j) {g : JFrame} (hg : g.method = m) {rest : List Value} (hs : g.stack = .int w :: .int J :: .ref (A i) :: rest) (hd : decode c.code g.pc = .ok (.iastore, 1)) :
    ∃ T' h' L, Stand p l e R s m args below meth c T' L cells slots ∧ T'.heap = h' ∧ own_R n Z n0 h' t A K (own_up2 F i j (.int w)) V I ∧ Fr n0 L ∧ ∀ target, Steps p.tables e below (T'.setTop { g with pc := g.pc + 1, stack := rest }) target → Steps p.tables e below (T.setTop g) target := by
  have H := own_pk B i hi
  obtain ⟨h1, -, -, g', ⟨c', Ar, q1, S, q3, H', G⟩, b⟩ := H
  obtain ⟨q, q'⟩ := own_inj16 S hJ
  obtain ⟨T', h', X', e', W, st⟩ := stI X hx hZ eT (show Arr Z h (A i) c' .int from ht ▸ Ar) q hg hs hd
  exact ⟨T', h', _, X', e', own_R_st B i j hi hJ.2 (by simpa using q') (by rw [ht]; rfl) W, Fr.snoc X' N h1, st⟩
theorem own_stD (X : Stand p l e R s m args below meth c T locs cells slots) (hx : p.tables.exec = Jvm.exec) (hZ : Z.Warmed39 s.vm) (eT : T.heap = h) (B : own_R n Z n0 h t A K F V I) (N : Fr n0 locs) (i j : Nat) (hi : i < n) (ht : own_ty i = .double) {J : Int32} {w : UInt64} (hJ : (¬ J < 0 ∧ J < 16) ∧ J.toNatClampNeg = j) {g : JFrame} (hg : g.method = m) {rest : List Value} (hs : g.stack = .double w :: .int J :: .ref (A i) :: rest) (hd : decode c.code g.pc = .ok (.dastore, 1)) :
    ∃ T' h' L, Stand p l e R s m args below meth c T' L cells slots ∧ T'.heap = h' ∧ own_R n Z n0 h' t A K (own_up2 F i j (.double w)) V I ∧ Fr n0 L ∧ ∀ target, Steps p.tables e below (T'.setTop { g with pc := g.pc + 1, stack := rest }) target → Steps p.tables e below (T.setTop g) target := by
  have H := own_pk B i hi
  obtain ⟨h1, -, -, g', ⟨c', Ar, q1, S, q3, H', G⟩, b⟩ := H
  obtain ⟨q, q'⟩ := own_inj16 S hJ
  obtain ⟨T', h', X', e', W, st⟩ := stD X hx hZ eT (show Arr Z h (A i) c' .double from ht ▸ Ar) q hg hs hd
  exact ⟨T', h', _, X', e', own_R_st B i j hi hJ.2 (by simpa using q') (by rw [ht]; rfl) W, Fr.snoc X' N h1, st⟩
theorem own_Ov {C : String} {ety : FieldType} (E : (ety = .int ∧ C = "[I") ∨ (ety = .double ∧ C = "[D")) (o : own_ov Z k (.array ety)) : OvrA Z k ety C := by
  rcases E with ⟨rfl, rfl⟩ | ⟨rfl, rfl⟩ <;> exact o
theorem own_stR (X : Stand p l e R s m args below meth c T locs cells slots) (hx : p.tables.exec = Jvm.exec) (hZ : Z.Warmed39 s.vm) (eT : T.heap = h) (B : own_R n Z n0 h t A K F V I) (N : Fr n0 locs) (i j mm : Nat) (hi : i < n) {ety : FieldType} (ht : own_ty i = .array ety) (hE : (ety = .int ∧ own_cn ety = "[I") ∨ (ety = .double ∧ own_cn ety = "[D")) (hm : I[mm]? = some ⟨a, k, ety, z, fo⟩) {J : Int32} (hJ : (¬ J < 0 ∧ J < 16) ∧ J.toNatClampNeg = j) {g : JFrame} (hg : g.method = m) {rest : List Value} (hs : g.stack = .ref a :: .int J :: .ref (A i) :: rest) (hd : decode c.code g.pc = .ok (.aastore, 1)) :
    ∃ T' h' L, Stand p l e R s m args below meth c T' L cells slots ∧ T'.heap = h' ∧ own_R n Z n0 h' t A K (own_up2 F i j (.ref a)) V I ∧ Fr n0 L ∧ ∀ target, Steps p.tables e below (T'.setTop { g with pc := g.pc + 1, stack := rest }) target → Steps p.tables e below (T.setTop g) target := by
  have H := own_pk B i hi
  obtain ⟨h1, -, ov, g', ⟨c', Ar, q1, S, q3, H', G⟩, b⟩ := H
  have Ex := (own_en B hm).2.1
  dsimp only at ov Ex q1 Ar
  rw [ht] at ov Ar
  obtain ⟨q, q'⟩ := own_inj16 S hJ
  obtain ⟨T', h', X', e', W, st⟩ := stR X hx hZ eT Ar q rfl (Sto.ofVA Ar q1 (own_Ov hE ov) (Ins.self Ex)) hg hs hd
  exact ⟨T', h', _, X', e', own_R_st B i j hi hJ.2 (by simpa using q') (by rw [ht]; rfl) W, Fr.snoc X' N h1, st⟩
theorem own_seI (X : Stand p l e R s m args below meth c T locs cells slots) (hx : p.tables.exec = Jvm.exec) (hZ : Z.Warmed39 s.vm) (eT : T.heap = h) (B : own_R n Z n0 h t A K F V I) (N : Fr n0 locs) (mm j : Nat) (hm : I[mm]? = some ⟨a, k, .int, z, none⟩) {J w : Int32} (hJ : (¬ J < 0 ∧ J < z) ∧ J.toNatClampNeg = j) {g : JFrame} (hg : g.method = m) {rest : List Value} (hs : g.stack = .int w :: .int J :: .ref a :: rest) (hd : decode c.code g.pc = .ok (.iastore, 1)) :
    ∃ T' h' L, Stand p l e R s m args below meth c T' L cells slots ∧ T'.heap = h' ∧ own_R n Z n0 h' t A K F V I ∧ Fr n0 L ∧ ∀ target, Steps p.tables e below (T'.setTop { g with pc := g.pc + 1, stack := rest }) target → Steps p.tables e below (T.setTop g) target := by
  have H := own_en B hm
  obtain ⟨h1, -, -, g', ⟨c', Ar, q1, S, q3, H', G⟩, b⟩ := H
  obtain ⟨q, q'⟩ := own_inj16 S hJ
  obtain ⟨T', h', X', e', W, st⟩ := stI X hx hZ eT Ar q hg hs hd
  exact ⟨T', h', _, X', e', own_R_se B (List.mem_of_getElem? hm) hJ.2 q' rfl W, Fr.snoc X' N h1, st⟩
theorem own_seD (X : Stand p l e R s m args below meth c T locs cells slots) (hx : p.tables.exec = Jvm.exec) (hZ : Z.Warmed39 s.vm) (eT : T.heap = h) (B : own_R n Z n0 h t A K F V I) (N : Fr n0 locs) (mm j : Nat) (hm : I[mm]? = some ⟨a, k, .double, z, none⟩) {J : Int32} {w : UInt64} (hJ : (¬ J < 0 ∧ J < z) ∧ J.toNatClampNeg = j) {g : JFrame} (hg : g.method = m) {rest : List Value} (hs : g.stack = .double w :: .int J :: .ref a :: rest) (hd : decode c.code g.pc = .ok (.dastore, 1)) :
    ∃ T' h' L, Stand p l e R s m args below meth c T' L cells slots ∧ T'.heap = h' ∧ own_R n Z n0 h' t A K F V I ∧ Fr n0 L ∧ ∀ target, Steps p.tables e below (T'.setTop { g with pc := g.pc + 1, stack := rest }) target → Steps p.tables e below (T.setTop g) target := by
  have H := own_en B hm
  obtain ⟨h1, -, -, g', ⟨c', Ar, q1, S, q3, H', G⟩, b⟩ := H
  obtain ⟨q, q'⟩ := own_inj16 S hJ
  obtain ⟨T', h', X', e', W, st⟩ := stD X hx hZ eT Ar q hg hs hd
  exact ⟨T', h', _, X', e', own_R_se B (List.mem_of_getElem? hm) hJ.2 q' rfl W, Fr.snoc X' N h1, st⟩
theorem own_shI (X : Stand p l e R s m args below meth c T locs cells slots) (hx : p.tables.exec = Jvm.exec) (hZ : Z.Warmed39 s.vm) (eT : T.heap = h) (B : own_R n Z n0 h t A K F V (⟨a, k, .int, z, some f⟩ :: I)) (N : Fr n0 locs) (j : Nat) {J w : Int32} (hJ : (¬ J < 0 ∧ J < z) ∧ J.toNatClampNeg = j) {g : JFrame} (hg : g.method = m) {rest : List Value} (hs : g.stack = .int w :: .int J :: .ref a :: rest) (hd : decode c.code g.pc = .ok (.iastore, 1)) :
    ∃ T' h' L, Stand p l e R s m args below meth c T' L cells slots ∧ T'.heap = h' ∧ own_R n Z n0 h' t A K F V (⟨a, k, .int, z, some (own_up f j (.int w))⟩ :: I) ∧ Fr n0 L ∧ ∀ target, Steps p.tables e below (T'.setTop { g with pc := g.pc + 1, stack := rest }) target → Steps p.tables e below (T.setTop g) target := by
  have H := own_en (m := 0) B rfl
  obtain ⟨h1, -, -, g', ⟨c', Ar, q1, S, q3, H', G⟩, b⟩ := H
  obtain ⟨q, q'⟩ := own_inj16 S hJ
  obtain ⟨T', h', X', e', W, st⟩ := stI X hx hZ eT Ar q hg hs hd
  exact ⟨T', h', _, X', e', own_R_sh B hJ.2 q' rfl W, Fr.snoc X' N h1, st⟩
theorem own_shD (X : Stand p l e R s m args below meth c T locs cells slots) (hx : p.tables.exec = Jvm.exec) (hZ : Z.Warmed39 s.vm) (eT : T.heap = h) (B : own_R n Z n0 h t A K F V (⟨a, k, .double, z, some f⟩ :: I)) (N : Fr n0 locs) (j : Nat) {J : Int32} {w : UInt64} (hJ : (¬ J < 0 ∧ J < z) ∧ J.toNatClampNeg = j) {g : JFrame} (hg : g.method = m) {rest : List Value} (hs : g.stack = .double w :: .int J :: .ref a :: rest) (hd : decode c.code g.pc = .ok (.dastore, 1)) :
    ∃ T' h' L, Stand p l e R s m args below meth c T' L cells slots ∧ T'.heap = h' ∧ own_R n Z n0 h' t A K F V (⟨a, k, .double, z, some (own_up f j (.double w))⟩ :: I) ∧ Fr n0 L ∧ ∀ target, Steps p.tables e below (T'.setTop { g with pc := g.pc + 1, stack := rest }) target → Steps p.tables e below (T.setTop g) target := by
  have H := own_en (m := 0) B rfl
  obtain ⟨h1, -, -, g', ⟨c', Ar, q1, S, q3, H', G⟩, b⟩ := H
  obtain ⟨q, q'⟩ := own_inj16 S hJ
  obtain ⟨T', h', X', e', W, st⟩ := stD X hx hZ eT Ar q hg hs hd
  exact ⟨T', h', _, X', e', own_R_sh B hJ.2 q' rfl W, Fr.snoc X' N h1, st⟩
theorem own_pu (X : Stand p l e R s m args below meth c T locs cells slots) (hx : p.tables.exec = Jvm.exec) (hZ : Z.Warmed39 s.vm) {own : String} {index kk : Nat} (hown : s.vm.findClass own = some m.cls) (i : Nat) (w : (Cond.fieldLink own index "com/example/placewright/placewright/solver/RevisedSimplex" (own_nm i).1 (own_nm i).2).before a0 Z = true) (eT : T.heap = h) (B : own_R n Z n0 h t A K F V I) (N : Fr n0 locs) (S : own_S Z) (hi : n ≤ i) (hi2 : i < 22)
    (L : (Cond.lays "com/example/placewright/placewright/solver/RevisedSimplex" "com/example/placewright/placewright/solver/RevisedSimplex" (own_nm i).1 (own_nm i).2).before a0 Z = true ∨ ((Cond.laysFinal "com/example/placewright/placewright/solver/RevisedSimplex" "com/example/placewright/placewright/solver/RevisedSimplex" (own_nm i).1 (own_nm i).2).before a0 Z = true ∧ own = "com/example/placewright/placewright/solver/RevisedSimplex" ∧ meth.name = "<init>")) (wi : (Cond.instantiable "com/example/placewright/placewright/solver/RevisedSimplex" kk).before a0 Z = true)
    {v v' : Value} (hn : narrow (own_ft i) v = v') (hf : fits (own_ft i) v' = true) {g : JFrame} (hg : g.method = m) {rest : List Value} (hs : g.stack = v :: .ref t :: rest) (hd : decode c.code g.pc = .ok (.putfield index, 3)) :
    ∃ T' h' L, Stand p l e R s m args below meth c T' L cells slots ∧ T'.heap = h' ∧ own_R n Z n0 h' t A K F (own_up V i v') I ∧ Fr n0 L ∧ ∀ target, Steps p.tables e below (T'.setTop { g with pc := g.pc + 3, stack := rest }) target → Steps p.tables e below (T.setTop g) target := by
  obtain ⟨T', h', X', e', W, st⟩ := putFN X hx hZ hown w Via.refl eT (B.2.2.1 i hi2) B.2.1 L wi (own_fts i hi2) hn hf hg hs hd
  exact ⟨T', h', _, X', e', own_R_put B S i hi hi2 W, Fr.snoc X' N B.1, st⟩
theorem own_pa (X : Stand p l e R s m args below meth c T locs cells slots) (hx : p.tables.exec = Jvm.exec) (hZ : Z.Warmed39 s.vm) {own : String} {index kk : Nat} (hown : s.vm.findClass own = some m.cls) (w : (Cond.fieldLink own index "com/example/placewright/placewright/solver/RevisedSimplex" (own_nm n).1 (own_nm n).2).before a0 Z = true) (eT : T.heap = h) (B : own_R n Z n0 h t A K F V (⟨a, k, own_ty n, 16, some f⟩ :: I)) (N : Fr n0 locs) (S : own_S Z) (hi2 : n < 22)
    (L : (Cond.lays "com/example/placewright/placewright/solver/RevisedSimplex" "com/example/placewright/placewright/solver/RevisedSimplex" (own_nm n).1 (own_nm n).2).before a0 Z = true ∨ ((Cond.laysFinal "com/example/placewright/placewright/solver/RevisedSimplex" "com/example/placewright/placewright/solver/RevisedSimplex" (own_nm n).1 (own_nm n).2).before a0 Z = true ∧ own = "com/example/placewright/placewright/solver/RevisedSimplex" ∧ meth.name = "<init>")) (wi : (Cond.instantiable "com/example/placewright/placewright/solver/RevisedSimplex" kk).before a0 Z = true)
    (hn : narrow (own_ft n) (.ref a) = .ref a) (hf : fits (own_ft n) (.ref a) = true) {g : JFrame} (hg : g.method = m) {rest : List Value} (hs : g.stack = .ref a :: .ref t :: rest) (hd : decode c.code g.pc = .ok (.putfield index, 3)) :
    ∃ T' h' L, Stand p l e R s m args below meth c T' L cells slots ∧ T'.heap = h' ∧ own_R (n + 1) Z n0 h' t (own_upf A n a) (own_upf K n k) (own_upf F n f) (own_up V n (.ref a)) I ∧ Fr n0 L ∧ ∀ target, Steps p.tables e below (T'.setTop { g with pc := g.pc + 3, stack := rest }) target → Steps p.tables e below (T.setTop g) target := by
  obtain ⟨T', h', X', e', W, st⟩ := putFN X hx hZ hown w Via.refl eT (B.2.2.1 n hi2) B.2.1 L wi (own_fts n hi2) hn hf hg hs hd
  exact ⟨T', h', _, X', e', own_R_adopt B S hi2 W, Fr.snoc X' N B.1, st⟩
theorem own_na (X : Stand p l e R s m args below meth c T locs cells slots) (hx : p.tables.exec = Jvm.exec) (hZ : Z.Warmed39 s.vm) {aty : ArrayType} (w : (Cond.arrayClass (newarray.typeOf aty)).before a0 Z = true) (eT : T.heap = h) (B : own_R n Z n0 h t A K F V I) (ty : FieldType) (hty : newarray.typeOf aty = ty) (hov : ∀ k, own_ov Z k ty) (hcn : "[" ++ ty.toString = own_cn ty) {g : JFrame} (hg : g.method = m) (hd : decode c.code g.pc = .ok (.newarray aty, 2)) {z : Int32} {rest : List Value} (hs : g.stack = .int z :: rest)
    (hn : ¬ z < 0) {cap : Nat} (hcap : z.toNatClampNeg ≤ cap) (hb : cap * 8 ≤ 536870912) (hc : cells + 1 ≤ R.cells) (hl : slots + cap ≤ R.slots) :
    ∃ T' h' b k, Stand p l e R s m args below meth c T' locs (cells + 1) (slots + cap) ∧ T'.heap = h' ∧ own_R n Z n0 h' t A K F V (⟨b, k, ty, z, some (own_all (defaultValue ty))⟩ :: I) ∧
      ∀ target, Steps p.tables e below (T'.setTop { g with pc := g.pc + 2, stack := .ref b :: rest }) target → Steps p.tables e below (T.setTop g) target := by
  subst hty
  obtain ⟨T', h', k, X', e', E, Ar, Ex, st⟩ := newPE X hx hZ w eT hg hd hs hn hcap hb hc hl hcn
  exact ⟨T', h', h.size, k, X', e', own_R_push B E ⟨own_R_sz B, Ex, hov k, _, own_newG Ar hn, Or.inr rfl⟩ (Nat.le_refl _), st⟩
theorem own_nr (X : Stand p l e R s m args below meth c T locs cells slots) (hx : p.tables.exec = Jvm.exec) (hZ : Z.Warmed39 s.vm) {own C : String} {index : Nat} (hown : s.vm.findClass own = some m.cls) (ty : FieldType) (hC : (FieldType.array ty).toString = C) (w1 : (Cond.classLink own index C).before a0 Z = true) (w2 : (Cond.arrayOver (.array ty)).before a0 Z = true) (eT : T.heap = h) (B : own_R n Z n0 h t A K F V I) (hov : ∀ k, OvrA Z k ty C → own_ov Z k (.array ty)) (hcn : "[" ++ C = own_cn (.array ty)) {g : JFrame} (hg : g.method = m) (hd : decode c.code g.pc = .ok (.anewarray index, 3)) {z : Int32} {rest : List Value} (hs : g.stack = .int z :: rest)
    (hn : ¬ z < 0) {cap : Nat} (hcap : z.toNatClampNeg ≤ cap) (hb : cap * 8 ≤ 536870912) (hc : cells + 1 ≤ R.cells) (hl : slots + cap ≤ R.slots) :
    ∃ T' h' b k, Stand p l e R s m args below meth c T' locs (cells + 1) (slots + cap) ∧ T'.heap = h' ∧ own_R n Z n0 h' t A K F V (⟨b, k, .array ty, z, some (own_all .null)⟩ :: I) ∧
      ∀ target, Steps p.tables e below (T'.setTop { g with pc := g.pc + 3, stack := .ref b :: rest }) target → Steps p.tables e below (T.setTop g) target := by
  obtain ⟨T', h', k, X', e', E, Ar, Ex, O, st⟩ := newRA X hx hZ hown hC w1 w2 eT hg hd hs hn hcap hb hc hl hcn
  exact ⟨T', h', h.size, k, X', e', own_R_push B E ⟨own_R_sz B, Ex, hov k O, _, own_newG Ar hn, Or.inr rfl⟩ (Nat.le_refl _), st⟩
theorem own_cl (X : Stand p l e R s m args below meth c T locs cells slots) (hx : p.tables.exec = Jvm.exec) (hZ : Z.Warmed39 s.vm) {own ad : String} {index : Nat} (hown : s.vm.findClass own = some m.cls)
    (w1 : (Cond.methodLink own index ⟨ad, "clone", "()Ljava/lang/Object;"⟩).before a0 Z = true) (w2 : (Cond.sameMethod ad "java/lang/Object" "clone" "()Ljava/lang/Object;").before a0 Z = true) (w3 : (Cond.native ⟨"java/lang/Object", "clone", "()Ljava/lang/Object;"⟩).before a0 Z = true)
    (w4 : (Cond.instanceMethod ⟨"java/lang/Object", "clone", "()Ljava/lang/Object;"⟩).before a0 Z = true) (w5 : (Cond.selects ad ⟨ad, "clone", "()Ljava/lang/Object;"⟩ ⟨"java/lang/Object", "clone", "()Ljava/lang/Object;"⟩).before a0 Z = true) (w6 : (Cond.castable ad "java/lang/Cloneable").before a0 Z = true)
    (eT : T.heap = h) (B : own_R n Z n0 h t A K F V I) (mm : Nat) (hm : I[mm]? = some ⟨a, k, ty, z, fo⟩) (had : own_cn ty = ad) (hov : ∀ k, own_ov Z k ty) {g : JFrame} (hg : g.method = m) (hsize : g.locals.size = c.maxLocals) {rest : List Value} (hst : g.stack = .ref a :: rest) (hd : decode c.code g.pc = .ok (.invokevirtual index, 3))
    (hf : 1 ≤ R.frames) {W cap : Nat} (hW : 2 * g.monitorRoom + (rest.map fun v => v.category).sum ≤ W) (hl : W + 14 ≤ R.locals) (hcap : z.toNatClampNeg ≤ cap) (hc : cells + 1 ≤ R.cells) (hsl : slots + cap ≤ R.slots) :
    ∃ T' h' b, Stand p l e R s m args below meth c T' locs (cells + 1) (slots + cap) ∧ T'.heap = h' ∧ own_R n Z n0 h' t A K F V (⟨b, k, ty, z, none⟩ :: I) ∧
      ∀ target, Steps p.tables e below (T'.setTop { g with pc := g.pc + 3, stack := .ref b :: rest }) target → Steps p.tables e below (T.setTop g) target := by
  obtain ⟨-, Ex, -, g', Av, -⟩ := own_en B hm
  dsimp only at Ex Av
  obtain ⟨T', h', X', e', E, Av', Ex', st⟩ := own_clone X hx hZ hown w1 w2 w3 w4 w5 w6 eT Av (had ▸ Ex) hg hsize hst hd hf hW hl hcap hc hsl
  exact ⟨T', h', h.size, X', e', own_R_push B E ⟨own_R_sz B, had ▸ Ex', hov k, g', Av', Or.inl rfl⟩ (Nat.le_refl _), st⟩
theorem own_ca (X : Stand p l e R s m args below meth c T locs cells slots) (hx : p.tables.exec = Jvm.exec) (hZ : Z.Warmed39 s.vm) {own C : String} {index : Nat} (hown : s.vm.findClass own = some m.cls) (w : (Cond.classLink own index C).before a0 Z = true) (eT : T.heap = h) (H : own_ok Z n0 h ⟨a, k, ty, z, fo⟩) (hC : own_cn ty = C)
    {g : JFrame} (hg : g.method = m) {rest : List Value} (hs : g.stack = .ref a :: rest) (hd : decode c.code g.pc = .ok (.checkcast index, 3)) : ∃ T', Stand p l e R s m args below meth c T' locs cells slots ∧ T'.heap = h ∧ ∀ target, Steps p.tables e below (T'.setTop { g with pc := g.pc + 3 }) target → Steps p.tables e below (T.setTop g) target :=
  castY X hx hZ hown w eT (Ins.self (hC ▸ H.2.1)) hg hs hd
theorem own_Gnat (z : Int32) (g : Nat → Value) (vs : List Value) (d : Value) (hl : vs.length ≤ z.toNatClampNeg) {h : Heap} (Av : Arv Z h a k ty z vs d) : ∃ g', Arv Z h a k ty z (own_G z g') d := by
  refine ⟨fun i => vs.getD i d, Av.pad fun i => ?_⟩
  by_cases q : i < z.toNatClampNeg
  · rw [own_G_get q]
  · rw [List.getD_eq_getElem?_getD, List.getElem?_eq_none (by rw [own_G_len]; omega), List.getD_eq_getElem?_getD, List.getElem?_eq_none (by omega)]
theorem own_ac (X : Stand p l e R s m args below meth c T locs cells slots) (hx : p.tables.exec = Jvm.exec) (hZ : Z.Warmed39 s.vm) {own : String} {index : Nat} (hown : s.vm.findClass own = some m.cls)
    (w1 : (Cond.methodLink own index Jvm.Stand.acN).before a0 Z = true) (w2 : (Cond.native Jvm.Stand.acN).before a0 Z = true) (w3 : (Cond.static Jvm.Stand.acN).before a0 Z = true) (w4 : (Cond.initialized "java/lang/System").before a0 Z = true) (eT : T.heap = h)
    {b : Addr} {k' : ClassId} {z' nn : Int32} {fo' : Option (Nat → Value)} (B : own_R n Z n0 h t A K F V (⟨b, k', ty, z', fo'⟩ :: I)) (N : Fr n0 locs) (mm : Nat) (hm : I[mm]? = some ⟨a, k, ty, z, fo⟩) (hp : refKind ty = false) (h3 : ¬ nn < 0) (h4 : nn.toNatClampNeg ≤ z.toNatClampNeg) (h5 : nn.toNatClampNeg ≤ z'.toNatClampNeg)
    {g : JFrame} (hg : g.method = m) (hsize : g.locals.size = c.maxLocals) {rest : List Value} (hs : g.stack = .int nn :: .int 0 :: .ref b :: .int 0 :: .ref a :: rest) (hd : decode c.code g.pc = .ok (.invokestatic index, 3))
    (hf : 1 ≤ R.frames) {W : Nat} (hW : 2 * g.monitorRoom + (rest.map fun v => v.category).sum ≤ W) (hlo : W + (nativeFrameWords "java/lang/System" "arraycopy" 5 + 11) ≤ R.locals) :
    ∃ T' h' L, Stand p l e R s m args below meth c T' L cells slots ∧ T'.heap = h' ∧ own_R n Z n0 h' t A K F V (⟨b, k', ty, z', none⟩ :: I) ∧ Fr n0 L ∧
      ∀ target, Steps p.tables e below (T'.setTop { g with pc := g.pc + 3, stack := rest }) target → Steps p.tables e below (T.setTop g) target := by
  obtain ⟨-, -, -, ga, Aa, -⟩ := B.2.2.2.2.1 _ (List.mem_cons_of_mem _ (List.mem_of_getElem? hm))
  obtain ⟨hb, -, -, gb, Ab, -⟩ := own_en (m := 0) B rfl
  dsimp only at Aa Ab hb
  have z0 : (0 : Int32).toNatClampNeg = 0 := by decide
  obtain ⟨T', h', L, X', e', N', Kp, Av, st⟩ := cpA X hx hZ hown w1 w2 w3 w4 eT Aa Ab (Or.inl ⟨rfl, hp⟩) (by decide) (by decide) h3 (by rw [z0]; omega) (by rw [z0]; omega) rfl (by rw [z0, own_G_len]; omega) N hb hg hsize hs hd hf hW hlo
  obtain ⟨g', Av'⟩ := own_Gnat z' gb _ _ (by simp [own_G_len]; omega) Av
  exact ⟨T', h', L, X', e', own_R_kh B Kp Av', N', st⟩
end Step

end New
end Jvm.RoadKit
namespace Jvm.Pilot.@@N@@
open Jvm Jvm.ClassFile Sem Op Lib Jvm.Free Jvm.Stand Jvm.LawKit Jvm.RoadKit Bundle Jvm.Free.Fl Jvm.Pilot.@@N@@.Jvm.D
theorem own_W {a0 : Array Value} {Z : State} (hw : ∀ d ∈ tables_1, d.before a0 Z = true) (i : Nat) {d : Jvm.Cond} (h : tables_1[i]? = some d) : d.before a0 Z = true := hw _ (List.mem_of_getElem? h)
/-! my own laws on doubles: a result is a rounding of its exact value (monotone), exactness, the order -/
section OwnFloat
open Jvm.FP Jvm.FP.Core
/-- the value in units of 2^-1074 -/
def own_zv (a : UInt64) : Int := Core.zval Core.b64 (Core.val64 a)
abbrev own_U : Int := (Core.one64 : Int)
theorem own_U_pos : 0 < own_U := Int.natCast_pos.mpr Core.one64_pos
/-- r is N / D, rounded, as far as the order goes -/
def own_rnd (N D : Int) (r : UInt64) : Prop :=
  Core.val64 r ≠ .nan ∧ (∀ V, Core.val64 V ≠ .nan → own_zv V * D ≤ N → own_zv V ≤ own_zv r) ∧ (∀ V, Core.val64 V ≠ .nan → N ≤ own_zv V * D → own_zv r ≤ own_zv V)
theorem own_fin_ne {a : UInt64} (h : Core.DFin a) : Core.val64 a ≠ .nan := h.ne_nan
theorem own_pow0 : (2 : Nat) ^ (Core.b64.qmin - Core.b64.qmin).toNat = 1 := by rw [Int.sub_self]; rfl
theorem own_rnd_of_round {x : UInt64} {sg : Bool} {n : Nat} {e e0 : Int} (hx : Core.val64 x = Core.round Core.b64 (.fin sg n e)) (h0 : e0 ≤ Core.b64.qmin) (h0e : e0 ≤ e) :
    own_rnd (Core.signed sg (Core.inUnits n e e0)) (((2 ^ (Core.b64.qmin - e0).toNat : Nat) : Int)) x := by
  refine ⟨?_, fun V hV h => ?_, fun V hV h => ?_⟩
  · rw [hx]; intro q; have := Core.round_nan.mp q; cases this
  · have := Core.zval_round_ge Core.good_b64 (s := sg) (c := n) (q := e) (e0 := e0) (V := Core.val64 V) (Core.val64_fits V) hV h0 h0e h
    unfold own_zv; rw [hx]; exact this
  · have := Core.zval_round_le Core.good_b64 (s := sg) (c := n) (q := e) (e0 := e0) (V := Core.val64 V) (Core.val64_fits V) hV h0 h0e h
    unfold own_zv; rw [hx]; exact this
theorem own_dadd_rnd {a b : UInt64} (ha : Core.DFin a) (hb : Core.DFin b) : own_rnd (own_zv a + own_zv b) 1 (FP.dadd a b) := by
  obtain ⟨s, c, q, ea⟩ := ha
  obtain ⟨t, d, r, eb⟩ := hb
  have fa := Core.val64_fits a; have fb := Core.val64_fits b
  rw [ea] at fa; rw [eb] at fb
  obtain ⟨sg, n, e, h1, h2, h3⟩ := Core.sum_units fa fb
  have hv : Core.val64 (FP.dadd a b) = Core.round Core.b64 (.fin sg n e) := by
    show Core.val64 (Core.dadd a b) = _
    rw [Core.val64_dadd, ea, eb, h1]
  have := own_rnd_of_round hv (Int.le_refl _) h2
  rw [h3, own_pow0] at this
  unfold own_zv; rw [ea, eb]; exact this
theorem own_zv_dneg (a : UInt64) : own_zv (Core.dneg a) = -own_zv a := by
  unfold own_zv; rw [Core.val64_dneg, Core.zval_negate]
theorem own_fin_dneg {a : UInt64} (ha : Core.DFin a) : Core.DFin (Core.dneg a) := by
  obtain ⟨s, c, q, ea⟩ := ha
  exact ⟨!s, c, q, by rw [Core.val64_dneg, ea]; rfl⟩
theorem own_dneg_zv {a : UInt64} (ha : Core.DFin a) : Core.DFin (FP.dneg a) ∧ own_zv (FP.dneg a) = -own_zv a := by
  rw [FP.dneg_core ha.notNaN]; exact ⟨own_fin_dneg ha, own_zv_dneg a⟩
theorem own_dsub_rnd {a b : UInt64} (ha : Core.DFin a) (hb : Core.DFin b) : own_rnd (own_zv a - own_zv b) 1 (FP.dsub a b) := by
  have h := own_dadd_rnd ha (own_fin_dneg hb)
  rw [own_zv_dneg] at h
  have e : FP.dsub a b = FP.dadd a (Core.dneg b) := Core.dsub_eq a b
  rw [e, Int.sub_eq_add_neg]; exact h
theorem own_dmul_rnd {a b : UInt64} (ha : Core.DFin a) (hb : Core.DFin b) : own_rnd (own_zv a * own_zv b) own_U (FP.dmul a b) := by
  obtain ⟨s, c, q, ea⟩ := ha
  obtain ⟨t, d, r, eb⟩ := hb
  have fa := Core.val64_fits a; have fb := Core.val64_fits b
  rw [ea] at fa; rw [eb] at fb
  obtain ⟨h1, h2, h3⟩ := Core.product_units fa fb
  have hv : Core.val64 (FP.dmul a b) = Core.round Core.b64 (.fin (s != t) (c * d) (q + r)) := by
    show Core.val64 (Core.dmul a b) = _
    rw [Core.val64_dmul, ea, eb, h1]
  have hq := Core.qmin_neg Core.good_b64
  have := own_rnd_of_round (e0 := 2 * Core.b64.qmin) hv (by omega) h2
  rw [h3, Core.signed_xor, show Core.b64.qmin - 2 * Core.b64.qmin = -Core.b64.qmin by omega, Core.pow_qmin64] at this
  unfold own_zv; rw [ea, eb]; exact this
theorem own_ddiv_rnd {a b : UInt64} (ha : Core.DFin a) (hb : Core.DFin b) (hz : own_zv b ≠ 0) : own_rnd (if 0 < own_zv b then own_zv a * own_U else -(own_zv a * own_U)) (own_zv b).natAbs (FP.ddiv a b) := by
  obtain ⟨s, c, q, ea⟩ := ha
  obtain ⟨t, d, r, eb⟩ := hb
  have fa := Core.val64_fits a; have fb := Core.val64_fits b
  rw [ea] at fa; rw [eb] at fb
  have hq1 := fa.2.1; have hq2 := fb.2.1
  have hqm := Core.qmin_neg Core.good_b64
  have zb : own_zv b = Core.signed t (Core.inUnits d r Core.b64.qmin) := by unfold own_zv; rw [eb]; rfl
  have za : own_zv a = Core.signed s (Core.inUnits c q Core.b64.qmin) := by unfold own_zv; rw [ea]; rfl
  have d0 : d ≠ 0 := fun h => hz (by rw [zb, h]; unfold Core.inUnits; rw [Nat.zero_mul]; exact Core.signed_zero t)
  have hB : 0 < Core.inUnits d r Core.b64.qmin := Nat.mul_pos (Nat.pos_of_ne_zero d0) (Nat.two_pow_pos _)
  have hv : Core.val64 (FP.ddiv a b) = Core.roundRatio Core.b64 (s != t) c d (q - r) := by
    show Core.val64 (Core.ddiv a b) = _
    rw [Core.val64_ddiv, ea, eb]; show (if d = 0 then _ else _) = _; rw [if_neg d0]
  have e1 : Core.inUnits c (q - r) (Core.b64.qmin - (r - Core.b64.qmin)) = Core.inUnits c q Core.b64.qmin * Core.one64 := by
    unfold Core.inUnits
    rw [← Core.pow_qmin64, Nat.mul_assoc, ← Nat.pow_add, show (q - r - (Core.b64.qmin - (r - Core.b64.qmin))).toNat = (q - Core.b64.qmin).toNat + (-Core.b64.qmin).toNat by omega]
  have e2 : ∀ v : Nat, v * 2 ^ (Core.b64.qmin - (Core.b64.qmin - (r - Core.b64.qmin))).toNat * d = v * Core.inUnits d r Core.b64.qmin := fun v => by
    unfold Core.inUnits
    rw [show Core.b64.qmin - (Core.b64.qmin - (r - Core.b64.qmin)) = r - Core.b64.qmin by omega, Nat.mul_assoc, Nat.mul_comm (2 ^ _) d]
  have hle : ∀ V : Core.Datum, Core.fits Core.b64 V → V ≠ .nan → Core.inUnits c q Core.b64.qmin * Core.one64 ≤ Core.zmag Core.b64 V * Core.inUnits d r Core.b64.qmin → Core.zmag Core.b64 (Core.roundRatio Core.b64 (s != t) c d (q - r)) ≤ Core.zmag Core.b64 V := fun V hV hn h =>
    Core.zmag_roundRatio_le Core.good_b64 (e0 := Core.b64.qmin - (r - Core.b64.qmin)) (Nat.pos_of_ne_zero d0) hV hn (by omega) (by omega) (by rw [e1, e2]; exact h)
  have hge : ∀ V : Core.Datum, Core.fits Core.b64 V → V ≠ .nan → Core.zmag Core.b64 V * Core.inUnits d r Core.b64.qmin ≤ Core.inUnits c q Core.b64.qmin * Core.one64 → Core.zmag Core.b64 V ≤ Core.zmag Core.b64 (Core.roundRatio Core.b64 (s != t) c d (q - r)) := fun V hV hn h =>
    Core.zmag_roundRatio_ge Core.good_b64 (e0 := Core.b64.qmin - (r - Core.b64.qmin)) (Nat.pos_of_ne_zero d0) hV (by omega) (by omega) (by rw [e1, e2]; exact h)
  have zr : own_zv (FP.ddiv a b) = Core.signed (s != t) (Core.zmag Core.b64 (Core.roundRatio Core.b64 (s != t) c d (q - r))) := by
    unfold own_zv; rw [hv]; unfold Core.zval; rw [Core.sgn_roundRatio]
  have hN : (if 0 < own_zv b then own_zv a * own_U else -(own_zv a * own_U)) = Core.signed (s != t) (Core.inUnits c q Core.b64.qmin * Core.one64) := by
    rw [zb, za, ← Core.signed_mul]
    cases s <;> cases t <;> simp only [Core.signed, if_true, if_false, Bool.false_eq_true, bne_self_eq_false, Bool.true_bne, Bool.false_bne, Bool.not_false, Bool.not_true] <;> split <;> omega
  have hD : ((own_zv b).natAbs : Int) = (Core.inUnits d r Core.b64.qmin : Nat) := by rw [zb, Core.natAbs_signed]
  have hzz : ∀ v : Nat, v * Core.inUnits d r Core.b64.qmin = 0 → v = 0 := fun v h => by rcases Nat.mul_eq_zero.mp h with h | h <;> omega
  rw [hN, hD]
  refine ⟨by rw [hv]; exact Core.roundRatio_ne_nan _ _ _ _ _, fun V hV h => ?_, fun V hV h => ?_⟩
  all_goals
    have h1 := hle _ (Core.val64_fits V) hV; have h2 := hge _ (Core.val64_fits V) hV; have h3 := hzz (Core.zmag Core.b64 (Core.val64 V))
    rw [zr]
    rw [show own_zv V = Core.signed (Core.sgn (Core.val64 V)) (Core.zmag Core.b64 (Core.val64 V)) from rfl] at h ⊢
    rw [← Core.signed_mul] at h
    generalize Core.zmag Core.b64 (Core.val64 V) * Core.inUnits d r Core.b64.qmin = vP at *
    generalize Core.inUnits c q Core.b64.qmin * Core.one64 = A at *
    generalize Core.sgn (Core.val64 V) = tV at *
    generalize (s != t) = st at *
    cases st <;> cases tV <;> simp only [Core.signed, if_true, Bool.false_eq_true, if_false] at h ⊢
    all_goals first
      | omega
      | (have := h1 (by omega); omega)
      | (have := h2 (by omega); omega)
      | (have := h1 (by omega); have := h3 (by omega); omega)
      | (have := h2 (by omega); have := h3 (by omega); omega)
/-- numbers of 53 digits are doubles -/
theorem own_rep (c : Int) (j : Nat) (hc : c.natAbs < 2 ^ 53) (hj : j ≤ 2045) : ∃ V, Core.DFin V ∧ own_zv V = c * ((2 ^ j : Nat) : Int) := by
  have hq1 : Core.b64.qmin = -1074 := Core.qmin_b64
  have hq2 : Core.b64.qmax = 971 := by decide
  obtain ⟨c', q', h1, h2⟩ := Core.round_exact Core.good_b64 (decide (c < 0)) (c := c.natAbs) (q := Core.b64.qmin + j) hc (by omega) (by omega)
  have hv : Core.val64 (Core.of64 (Core.round Core.b64 (.fin (decide (c < 0)) c.natAbs (Core.b64.qmin + j)))) = .fin (decide (c < 0)) c' q' := by
    rw [Core.val64_of64 (Core.round_fits Core.good_b64 _), h1]
  refine ⟨_, ⟨_, _, _, hv⟩, ?_⟩
  unfold own_zv; rw [hv]
  show Core.signed (decide (c < 0)) (Core.inUnits c' q' Core.b64.qmin) = _
  rw [h2]; unfold Core.inUnits
  rw [Core.signed_mul, show (Core.b64.qmin + (j : Int) - Core.b64.qmin).toNat = j by omega]
  congr 1
  by_cases h : c < 0
  · simp only [Core.signed, h, decide_true, if_true]; omega
  · simp only [Core.signed, h, decide_false, Bool.false_eq_true, if_false]; omega
theorem own_zv_lt {a : UInt64} (h : Core.DFin a) : (own_zv a).natAbs < Core.b64.tails * 2 ^ (Core.b64.exps - 2) := by
  have := Core.DFin.zval_lt h
  unfold own_zv Core.zval; rw [Core.natAbs_signed]; exact this
theorem own_fin_of {r V : UInt64} (hr : Core.val64 r ≠ .nan) (hV : Core.DFin V) (h : (own_zv r).natAbs ≤ (own_zv V).natAbs) : Core.DFin r := by
  cases e : Core.val64 r with
  | nan => exact absurd e hr
  | inf s =>
    have h1 := own_zv_lt hV
    have h2 : (own_zv r).natAbs = Core.b64.tails * 2 ^ (Core.b64.exps - 2) := by unfold own_zv Core.zval; rw [Core.natAbs_signed, e]; rfl
    omega
  | fin s c q => exact ⟨s, c, q, e⟩
/-- what is representable is not rounded -/
theorem own_exactV {N D : Int} {r V : UInt64} (h : own_rnd N D r) (hV : Core.DFin V) (e : own_zv V * D = N) : Core.DFin r ∧ own_zv r = own_zv V := by
  have h1 := h.2.1 V hV.ne_nan (by omega)
  have h2 := h.2.2 V hV.ne_nan (by omega)
  have h3 : own_zv r = own_zv V := by omega
  exact ⟨own_fin_of h.1 hV (by rw [h3]; exact Nat.le_refl _), h3⟩
theorem own_exact {N D : Int} {r : UInt64} (h : own_rnd N D r) (c : Int) (j : Nat) (hc : c.natAbs < 2 ^ 53) (hj : j ≤ 2045) (e : c * ((2 ^ j : Nat) : Int) * D = N) : Core.DFin r ∧ own_zv r = c * ((2 ^ j : Nat) : Int) := by
  obtain ⟨V, f, z⟩ := own_rep c j hc hj
  rw [← z] at e ⊢
  exact own_exactV h f e
/-! the order -/
theorem own_dcmp {a b : UInt64} (ha : Core.val64 a ≠ .nan) (hb : Core.val64 b ≠ .nan) : FP.dcmp a b = some (compare (own_zv a) (own_zv b)) := Core.dcmp_zval ha hb
theorem own_cmpv {a b : UInt64} (ha : Core.val64 a ≠ .nan) (hb : Core.val64 b ≠ .nan) (o : CmpOp) : cmpValue (FP.dcmp a b) o = if own_zv a < own_zv b then -1 else if own_zv a = own_zv b then 0 else 1 := by
  rw [own_dcmp ha hb, Core.compare_ite]
  by_cases h1 : own_zv a < own_zv b
  · simp only [h1, if_true]; cases o <;> rfl
  · by_cases h2 : own_zv a = own_zv b
    · simp only [h2, Int.lt_irrefl, if_true, if_false]; cases o <;> rfl
    · simp only [h1, h2, if_false]; cases o <;> rfl
theorem own_cmp_le {a b : UInt64} (ha : Core.val64 a ≠ .nan) (hb : Core.val64 b ≠ .nan) (h : own_zv a ≤ own_zv b) (o : CmpOp) : ¬ ((0 : Int32) < cmpValue (FP.dcmp a b) o) := by
  rw [own_cmpv ha hb]
  by_cases h1 : own_zv a < own_zv b
  · rw [if_pos h1]; decide
  · rw [if_neg h1, if_pos (by omega)]; decide
theorem own_cmp_ge {a b : UInt64} (ha : Core.val64 a ≠ .nan) (hb : Core.val64 b ≠ .nan) (h : own_zv b ≤ own_zv a) (o : CmpOp) : ¬ (cmpValue (FP.dcmp a b) o < (0 : Int32)) := by
  rw [own_cmpv ha hb, if_neg (by omega)]
  by_cases h1 : own_zv a = own_zv b
  · rw [if_pos h1]; decide
  · rw [if_neg h1]; decide
theorem own_cmp_lt {a b : UInt64} (ha : Core.val64 a ≠ .nan) (hb : Core.val64 b ≠ .nan) (h : own_zv a < own_zv b) (o : CmpOp) : cmpValue (FP.dcmp a b) o < (0 : Int32) := by
  rw [own_cmpv ha hb, if_pos h]; decide
theorem own_cmp_gt {a b : UInt64} (ha : Core.val64 a ≠ .nan) (hb : Core.val64 b ≠ .nan) (h : own_zv b < own_zv a) (o : CmpOp) : (0 : Int32) < cmpValue (FP.dcmp a b) o := by
  rw [own_cmpv ha hb, if_neg (by omega), if_neg (by omega)]; decide
theorem own_cmp_eq {a b : UInt64} (ha : Core.val64 a ≠ .nan) (hb : Core.val64 b ≠ .nan) (h : own_zv a = own_zv b) (o : CmpOp) : cmpValue (FP.dcmp a b) o = (0 : Int32) := by
  rw [own_cmpv ha hb, if_neg (by omega), if_pos h]
theorem own_cmp_ne {a b : UInt64} (ha : Core.val64 a ≠ .nan) (hb : Core.val64 b ≠ .nan) (h : own_zv a ≠ own_zv b) (o : CmpOp) : ¬ (cmpValue (FP.dcmp a b) o = (0 : Int32)) := by
  rw [own_cmpv ha hb]
  by_cases h1 : own_zv a < own_zv b
  · rw [if_pos h1]; decide
  · rw [if_neg h1, if_neg h]; decide
/-! no NaN -/
theorem own_nn {a : UInt64} (h : Core.val64 a ≠ .nan) : NoNaN64 a := noNaN64_no.mpr ((Core.notNaN_iff a).mpr h)
theorem own_rnd_nn {N D : Int} {r : UInt64} (h : own_rnd N D r) : NoNaN64 r := own_nn h.1
theorem own_fin_nn {a : UInt64} (h : Core.DFin a) : NoNaN64 a := own_nn h.ne_nan
/-! whole numbers -/
theorem own_i2d (x : Int32) : Core.DFin (FP.i2d x) ∧ own_zv (FP.i2d x) = x.toInt * own_U := ⟨Core.i2d_fin x, Core.DInt_zval (Core.i2d_int x)⟩
theorem own_l2d {x : Int64} (h : x.toInt.natAbs ≤ 2 ^ 53) : Core.DFin (FP.l2d x) ∧ own_zv (FP.l2d x) = x.toInt * own_U := ⟨Core.l2d_fin x, Core.DInt_zval (Core.l2d_int h)⟩
theorem own_U_eq : own_U = ((2 ^ 1074 : Nat) : Int) := rfl
end OwnFloat
section OwnFloat2
open Jvm.FP Jvm.FP.Core
theorem own_lt_U {i j : Int} : i * own_U < j * own_U ↔ i < j := by
  have h := own_U_pos
  constructor
  · intro q; exact Int.lt_of_mul_lt_mul_right q (Int.le_of_lt h)
  · intro q; exact Int.mul_lt_mul_of_pos_right q h
theorem own_eq_U {i j : Int} : i * own_U = j * own_U ↔ i = j := by
  have h := own_U_pos
  constructor
  · intro q; exact Int.eq_of_mul_eq_mul_right (by omega) q
  · intro q; rw [q]
/-- a is the whole number i -/
def own_is (i : Int) (a : UInt64) : Prop := Core.DFin a ∧ own_zv a = i * own_U
theorem own_is_i2d (x : Int32) : own_is x.toInt (FP.i2d x) := own_i2d x
theorem own_is_neg0 : own_is 0 (9223372036854775808 : UInt64) := ⟨by rw [Core.fin_bits]; decide, by decide +kernel⟩
theorem own_is_0 : own_is 0 (0 : UInt64) := ⟨by rw [Core.fin_bits]; decide, by decide +kernel⟩
theorem own_cmpU {a b : UInt64} {i j : Int} (ha : own_is i a) (hb : own_is j b) (o : CmpOp) : cmpValue (FP.dcmp a b) o = if i < j then -1 else if i = j then 0 else 1 := by
  rw [own_cmpv ha.1.ne_nan hb.1.ne_nan, ha.2, hb.2]; simp only [own_lt_U, own_eq_U]
end OwnFloat2
section OwnFloat3
open Jvm.FP Jvm.FP.Core
theorem own_is_dneg {i : Int} {a : UInt64} (h : own_is i a) : own_is (-i) (FP.dneg a) := by
  obtain ⟨f, z⟩ := own_dneg_zv h.1
  exact ⟨f, by rw [z, h.2, Int.neg_mul]⟩
theorem own_self {a : UInt64} (h : Core.DFin a) (o : CmpOp) : cmpValue (FP.dcmp a a) o = (0 : Int32) := own_cmp_eq h.ne_nan h.ne_nan rfl o
/-- x - x is nought -/
theorem own_dsub_self {a : UInt64} (h : Core.DFin a) : FP.dsub a a = 0 := by
  obtain ⟨s, c, q, e⟩ := h
  exact Core.dsub_self e
end OwnFloat3
section OwnFloat4
open Jvm.FP Jvm.FP.Core
theorem own_rep_le (c : Int) (j : Nat) (hc : c.natAbs ≤ 2 ^ 53) (hj : j ≤ 2044) : ∃ V, Core.DFin V ∧ own_zv V = c * ((2 ^ j : Nat) : Int) := by
  by_cases h : c.natAbs < 2 ^ 53
  · exact own_rep c j h (by omega)
  · obtain ⟨V, f, z⟩ := own_rep (c / 2) (j + 1) (by omega) (by omega)
    refine ⟨V, f, ?_⟩
    rw [z, Nat.pow_succ, Int.natCast_mul]
    have : c = c / 2 * 2 := by omega
    rw [Int.mul_comm ((2 ^ j : Nat) : Int), ← Int.mul_assoc]
    have e : c / 2 * ((2 : Nat) : Int) = c := by omega
    rw [e]
theorem own_rnd_scale {N D k : Int} {r : UInt64} (hk : 0 < k) (h : own_rnd (N * k) (D * k) r) : own_rnd N D r := by
  refine ⟨h.1, fun V hV q => h.2.1 V hV ?_, fun V hV q => h.2.2 V hV ?_⟩
  · rw [← Int.mul_assoc]; exact Int.mul_le_mul_of_nonneg_right q (Int.le_of_lt hk)
  · rw [← Int.mul_assoc]; exact Int.mul_le_mul_of_nonneg_right q (Int.le_of_lt hk)
/-- the relative error, one unit in the last place at the most -/
theorem own_rel {N D : Int} {r : UInt64} (h : own_rnd N D r) (hD : 0 < D) (lo : 4503599627370496 * D ≤ N) (hi : N / D < ((2 ^ 2096 : Nat) : Int)) :
    Core.DFin r ∧ 4503599627370496 * (own_zv r * D - N) ≤ N ∧ 4503599627370496 * (N - own_zv r * D) ≤ N := by
  have hM : 4503599627370496 ≤ N / D := Int.le_ediv_of_mul_le hD lo
  obtain ⟨m, hm⟩ : ∃ m : Nat, N / D = (m : Int) := ⟨(N / D).toNat, by omega⟩
  have hN := Int.mul_ediv_add_emod N D
  have hr0 := Int.emod_nonneg N (show D ≠ 0 by omega)
  have hr1 := Int.emod_lt_of_pos N hD
  have m0 : m ≠ 0 := by omega
  have l1 : 2 ^ m.log2 ≤ m := Nat.log2_self_le m0
  have l2 : m < 2 ^ (m.log2 + 1) := Nat.lt_log2_self
  have l3 : 52 ≤ m.log2 := by
    apply Nat.le_of_lt_succ
    apply (Nat.pow_lt_pow_iff_right (by decide : 1 < 2)).mp
    exact Nat.lt_of_le_of_lt (show 2 ^ 52 ≤ m by omega) l2
  have l4 : m.log2 < 2096 := by
    apply (Nat.pow_lt_pow_iff_right (by decide : 1 < 2)).mp
    exact Nat.lt_of_le_of_lt l1 (by rw [hm] at hi; exact Int.ofNat_lt.mp hi)
  obtain ⟨e, he⟩ : ∃ e, m.log2 = e + 52 := ⟨m.log2 - 52, by omega⟩
  have hg : 0 < 2 ^ e := Nat.two_pow_pos e
  have p1 : 2 ^ m.log2 = 2 ^ e * 4503599627370496 := by rw [he, Nat.pow_add]
  have p2 : 2 ^ (m.log2 + 1) = 2 ^ e * 9007199254740992 := by rw [he, Nat.pow_add, Nat.pow_add]; omega
  have dm := Nat.div_add_mod m (2 ^ e)
  have ml := Nat.mod_lt m hg
  have k1 : 4503599627370496 ≤ m / 2 ^ e := (Nat.le_div_iff_mul_le hg).mpr (by rw [Nat.mul_comm]; omega)
  have k2 : m / 2 ^ e < 9007199254740992 := (Nat.div_lt_iff_lt_mul hg).mpr (by rw [Nat.mul_comm]; omega)
  obtain ⟨V1, f1, z1⟩ := own_rep_le ((m / 2 ^ e : Nat) : Int) e (by omega) (by omega)
  obtain ⟨V2, f2, z2⟩ := own_rep_le ((m / 2 ^ e + 1 : Nat) : Int) e (by omega) (by omega)
  have a1 : ((m / 2 ^ e : Nat) : Int) * ((2 ^ e : Nat) : Int) ≤ (m : Int) := by rw [← Int.natCast_mul]; exact Int.ofNat_le.mpr (Nat.div_mul_le_self _ _)
  have a2 : (m : Int) + 1 ≤ ((m / 2 ^ e + 1 : Nat) : Int) * ((2 ^ e : Nat) : Int) := by
    rw [← Int.natCast_mul]; have : m + 1 ≤ (m / 2 ^ e + 1) * 2 ^ e := by rw [Nat.add_mul, Nat.one_mul, Nat.mul_comm]; omega
    exact Int.ofNat_le.mpr this
  have a3 : ((m / 2 ^ e + 1 : Nat) : Int) * ((2 ^ e : Nat) : Int) = ((m / 2 ^ e : Nat) : Int) * ((2 ^ e : Nat) : Int) + ((2 ^ e : Nat) : Int) := by
    rw [Int.natCast_add, Int.add_mul]; simp
  have a4 : 4503599627370496 * ((2 ^ e : Nat) : Int) ≤ (m : Int) := by
    have : 2 ^ e * 4503599627370496 ≤ m := by omega
    omega
  have b1 : own_zv V1 * D ≤ N := by
    rw [z1]; have := Int.mul_le_mul_of_nonneg_right a1 (Int.le_of_lt hD); rw [hm, Int.mul_comm] at hN; omega
  have b2 : N ≤ own_zv V2 * D := by
    rw [z2]; have := Int.mul_le_mul_of_nonneg_right a2 (Int.le_of_lt hD); rw [Int.add_mul, Int.one_mul] at this; rw [hm, Int.mul_comm] at hN; omega
  have c1 := h.2.1 V1 f1.ne_nan b1
  have c2 := h.2.2 V2 f2.ne_nan b2
  rw [z1] at c1 b1; rw [z2] at c2 b2
  have d1 := Int.mul_le_mul_of_nonneg_right c1 (Int.le_of_lt hD)
  have d2 := Int.mul_le_mul_of_nonneg_right c2 (Int.le_of_lt hD)
  have d3 := Int.mul_le_mul_of_nonneg_right a4 (Int.le_of_lt hD)
  rw [a3, Int.add_mul] at d2 b2
  have d4 : (m : Int) * D ≤ N := by rw [hm, Int.mul_comm] at hN; omega
  rw [Int.mul_assoc] at d3
  refine ⟨own_fin_of h.1 f2 ?_, by omega, by omega⟩
  rw [z2]
  have s0 : 0 ≤ ((m / 2 ^ e : Nat) : Int) * ((2 ^ e : Nat) : Int) := Int.mul_nonneg (Int.natCast_nonneg _) (Int.natCast_nonneg _)
  omega
theorem own_is_mul {i j : Int} {a b : UInt64} (ha : own_is i a) (hb : own_is j b) (h : (i * j).natAbs < 2 ^ 53) : own_is (i * j) (FP.dmul a b) := by
  refine own_exact (own_dmul_rnd ha.1 hb.1) (i * j) 1074 h (by decide) ?_
  rw [ha.2, hb.2, ← own_U_eq]; simp only [Int.mul_assoc, Int.mul_comm, Int.mul_left_comm]
theorem own_is_add {i j : Int} {a b : UInt64} (ha : own_is i a) (hb : own_is j b) (h : (i + j).natAbs < 2 ^ 53) : own_is (i + j) (FP.dadd a b) := by
  refine own_exact (own_dadd_rnd ha.1 hb.1) (i + j) 1074 h (by decide) ?_
  rw [ha.2, hb.2, ← own_U_eq, Int.mul_one, Int.add_mul]
theorem own_is_sub {i j : Int} {a b : UInt64} (ha : own_is i a) (hb : own_is j b) (h : (i - j).natAbs < 2 ^ 53) : own_is (i - j) (FP.dsub a b) := by
  refine own_exact (own_dsub_rnd ha.1 hb.1) (i - j) 1074 h (by decide) ?_
  rw [ha.2, hb.2, ← own_U_eq, Int.mul_one, Int.sub_mul]
theorem own_is_l2d {x : Int64} (h : x.toInt.natAbs ≤ 2 ^ 53) : own_is x.toInt (FP.l2d x) := own_l2d h
/-- the quotient of two whole numbers, the divisor positive -/
theorem own_is_div_rnd {i j : Int} {a b : UInt64} (ha : own_is i a) (hb : own_is j b) (hj : 0 < j) : own_rnd (i * own_U) j (FP.ddiv a b) := by
  have hU := own_U_pos
  have hz : 0 < own_zv b := by rw [hb.2]; exact Int.mul_pos hj hU
  have h := own_ddiv_rnd ha.1 hb.1 (by omega)
  rw [if_pos hz, Int.natAbs_of_nonneg (Int.le_of_lt hz), ha.2, hb.2] at h
  exact own_rnd_scale hU h
end OwnFloat4
section OwnFloat5
open Jvm.FP Jvm.FP.Core
/-- a is c * 2^(j - 1074) -/
def own_at (c : Int) (j : Nat) (a : UInt64) : Prop := Core.DFin a ∧ own_zv a = c * ((2 ^ j : Nat) : Int)
theorem own_at_is {i : Int} {a : UInt64} (h : own_is i a) : own_at i 1074 a := h
theorem own_at_add {c1 c2 : Int} {j : Nat} {a b : UInt64} (ha : own_at c1 j a) (hb : own_at c2 j b) (h : (c1 + c2).natAbs < 2 ^ 53) (hj : j ≤ 2045) : own_at (c1 + c2) j (FP.dadd a b) := by
  refine own_exact (own_dadd_rnd ha.1 hb.1) (c1 + c2) j h hj ?_
  rw [ha.2, hb.2, Int.mul_one, Int.add_mul]
theorem own_at_sub {c1 c2 : Int} {j : Nat} {a b : UInt64} (ha : own_at c1 j a) (hb : own_at c2 j b) (h : (c1 - c2).natAbs < 2 ^ 53) (hj : j ≤ 2045) : own_at (c1 - c2) j (FP.dsub a b) := by
  refine own_exact (own_dsub_rnd ha.1 hb.1) (c1 - c2) j h hj ?_
  rw [ha.2, hb.2, Int.mul_one, Int.sub_mul]
theorem own_at_mul {c1 c2 : Int} {j1 j2 : Nat} {a b : UInt64} (ha : own_at c1 j1 a) (hb : own_at c2 j2 b) (j : Nat) (e : j1 + j2 = j + 1074) (h : (c1 * c2).natAbs < 2 ^ 53) (hj : j ≤ 2045) : own_at (c1 * c2) j (FP.dmul a b) := by
  refine own_exact (own_dmul_rnd ha.1 hb.1) (c1 * c2) j h hj ?_
  have p : ((2 ^ j : Nat) : Int) * own_U = ((2 ^ j1 : Nat) : Int) * ((2 ^ j2 : Nat) : Int) := by rw [own_U_eq, ← Int.natCast_mul, ← Int.natCast_mul, ← Nat.pow_add, ← Nat.pow_add, e]
  rw [ha.2, hb.2, Int.mul_assoc (c1 * c2), p]; simp only [Int.mul_assoc, Int.mul_comm, Int.mul_left_comm]
/-- a quotient that is exact -/
theorem own_at_div {c1 c2 c : Int} {j1 j2 : Nat} {a b : UInt64} (ha : own_at c1 j1 a) (hb : own_at c2 j2 b) (hc : 0 < c2) (j : Nat) (e : c * c2 * ((2 ^ (j + j2) : Nat) : Int) = c1 * ((2 ^ (j1 + 1074) : Nat) : Int)) (h : c.natAbs < 2 ^ 53) (hj : j ≤ 2045) : own_at c j (FP.ddiv a b) := by
  have hz : 0 < own_zv b := by rw [hb.2]; exact Int.mul_pos hc (Int.natCast_pos.mpr (Nat.two_pow_pos _))
  have hr := own_ddiv_rnd ha.1 hb.1 (by omega)
  rw [if_pos hz, Int.natAbs_of_nonneg (Int.le_of_lt hz)] at hr
  refine own_exact hr c j h hj ?_
  rw [ha.2, hb.2, own_U_eq]
  rw [Nat.pow_add, Nat.pow_add, Int.natCast_mul, Int.natCast_mul] at e
  have l : c * ((2 ^ j : Nat) : Int) * (c2 * ((2 ^ j2 : Nat) : Int)) = c * c2 * (((2 ^ j : Nat) : Int) * ((2 ^ j2 : Nat) : Int)) := by simp only [Int.mul_assoc, Int.mul_comm, Int.mul_left_comm]
  rw [l, e, Int.mul_assoc]
theorem own_at_up {c : Int} {j i : Nat} {a : UInt64} (h : own_at c (j + i) a) : own_at (c * ((2 ^ i : Nat) : Int)) j a :=
  ⟨h.1, by rw [h.2, Nat.pow_add, Int.natCast_mul, Int.mul_assoc, Int.mul_comm ((2 ^ i : Nat) : Int)]⟩
theorem own_at_dn {c : Int} {j i : Nat} {a : UInt64} (h : own_at (c * ((2 ^ i : Nat) : Int)) j a) : own_at c (j + i) a :=
  ⟨h.1, by rw [h.2, Nat.pow_add, Int.natCast_mul, Int.mul_assoc, Int.mul_comm ((2 ^ i : Nat) : Int)]⟩
theorem own_at_eq {c : Int} {j : Nat} {a b : UInt64} (ha : own_at c j a) (hb : own_at c j b) (o : CmpOp) : cmpValue (FP.dcmp a b) o = (0 : Int32) := own_cmp_eq ha.1.ne_nan hb.1.ne_nan (by rw [ha.2, hb.2]) o
theorem own_at_nn {c : Int} {j : Nat} {a : UInt64} (h : own_at c j a) : NoNaN64 a := own_fin_nn h.1
end OwnFloat5
section OwnFloat6
open Jvm.FP Jvm.FP.Core
theorem own_is_div {k j : Int} {a b : UInt64} (ha : own_is (k * j) a) (hb : own_is j b) (hj : j ≠ 0) (h : k.natAbs < 2 ^ 53) : own_is k (FP.ddiv a b) := by
  have hU := own_U_pos
  have hz : own_zv b ≠ 0 := by rw [hb.2]; intro q; rcases Int.mul_eq_zero.mp q with q | q <;> omega
  refine own_exact (own_ddiv_rnd ha.1 hb.1 hz) k 1074 h (by decide) ?_
  rw [← own_U_eq]
  by_cases q : 0 < own_zv b
  · rw [if_pos q, Int.natAbs_of_nonneg (Int.le_of_lt q), ha.2, hb.2]; simp only [Int.mul_assoc, Int.mul_comm, Int.mul_left_comm]
  · rw [if_neg q]
    have e : ((own_zv b).natAbs : Int) = -own_zv b := by omega
    rw [e, ha.2, hb.2, Int.mul_neg]; congr 1; simp only [Int.mul_assoc, Int.mul_comm, Int.mul_left_comm]
theorem own_fin_between {r V1 V2 : UInt64} (hr : Core.val64 r ≠ .nan) (h1 : Core.DFin V1) (h2 : Core.DFin V2) (a : own_zv V1 ≤ own_zv r) (b : own_zv r ≤ own_zv V2) : Core.DFin r := by
  by_cases q : (own_zv r).natAbs ≤ (own_zv V1).natAbs
  · exact own_fin_of hr h1 q
  · exact own_fin_of hr h2 (by omega)
/-- a quotient by a whole number, of any dividend -/
theorem own_div_rnd {j : Int} {a b : UInt64} (ha : Core.DFin a) (hb : own_is j b) (hj : 0 < j) : own_rnd (own_zv a) j (FP.ddiv a b) := by
  have hU := own_U_pos
  have hz : 0 < own_zv b := by rw [hb.2]; exact Int.mul_pos hj hU
  have h := own_ddiv_rnd ha hb.1 (by omega)
  rw [if_pos hz, Int.natAbs_of_nonneg (Int.le_of_lt hz), hb.2] at h
  exact own_rnd_scale hU h
theorem own_rep_is (k : Int) (h : k.natAbs < 2 ^ 53) : ∃ V, own_is k V := own_rep k 1074 h (by decide)
end OwnFloat6
section OwnFloat7
open Jvm.FP Jvm.FP.Core
/-- one value, not nought: one pattern of bits -/
theorem own_bits {a b : UInt64} (ha : Core.DFin a) (hb : Core.DFin b) (e : own_zv a = own_zv b) (h : own_zv b ≠ 0) : a = b := by
  refine Core.eq_bits (fun q => h ?_) ?_
  · have := Core.DZero.zval q; exact this
  · show FP.dcmp a b = _
    rw [own_dcmp ha.ne_nan hb.ne_nan, e, Core.compare_self_int]
theorem own_at_bits {c : Int} {j : Nat} {a b : UInt64} (ha : own_at c j a) (hb : own_at c j b) (h : c ≠ 0) : a = b := by
  refine own_bits ha.1 hb.1 (by rw [ha.2, hb.2]) ?_
  rw [hb.2]; intro q
  rcases Int.mul_eq_zero.mp q with q | q
  · exact h q
  · have := Nat.two_pow_pos j; omega
theorem own_fin64 {a : UInt64} (h : Core.DFin a) : Fin64 a := fin64_core.mpr h
end OwnFloat7
section OwnFloat8
open Jvm.FP Jvm.FP.Core
/-- r's magnitude is A / B (units of 2^-1074), rounded to nearest -/
def own_rr (A B : Nat) (r : UInt64) : Prop := 0 < B ∧ ∃ s, Core.val64 r = Core.roundRatio Core.b64 s A B Core.b64.qmin
theorem own_mag {a : UInt64} : (own_zv a).natAbs = Core.zmag Core.b64 (Core.val64 a) := by unfold own_zv Core.zval; rw [Core.natAbs_signed]
theorem own_in0 (A : Nat) : Core.inUnits A Core.b64.qmin Core.b64.qmin = A := by unfold Core.inUnits; rw [own_pow0, Nat.mul_one]
theorem own_rr_mono {A1 B1 A2 B2 : Nat} {r1 r2 : UInt64} (h1 : own_rr A1 B1 r1) (h2 : own_rr A2 B2 r2) (f1 : Core.DFin r1) (f2 : Core.DFin r2) (h : A1 * B2 ≤ A2 * B1) : (own_zv r1).natAbs ≤ (own_zv r2).natAbs := by
  obtain ⟨b1, s1, e1⟩ := h1
  obtain ⟨b2, s2, e2⟩ := h2
  have n1 := f1.ne_nan; have n2 := f2.ne_nan
  rw [own_mag, own_mag]
  by_cases q1 : A1 ≤ Core.zmag Core.b64 (Core.val64 r2) * B1
  · have := Core.zmag_roundRatio_le Core.good_b64 (s := s1) (A := A1) (B := B1) (e := Core.b64.qmin) (e0 := Core.b64.qmin) b1 (Core.val64_fits r2) n2 (Int.le_refl _) (Int.le_refl _) (by rw [own_in0, own_pow0, Nat.mul_one]; exact q1)
    rw [← e1] at this; exact this
  · by_cases q2 : Core.zmag Core.b64 (Core.val64 r1) * B2 ≤ A2
    · have := Core.zmag_roundRatio_ge Core.good_b64 (s := s2) (A := A2) (B := B2) (e := Core.b64.qmin) (e0 := Core.b64.qmin) b2 (Core.val64_fits r1) (Int.le_refl _) (Int.le_refl _) (by rw [own_in0, own_pow0, Nat.mul_one]; exact q2)
      rw [← e2] at this; exact this
    · apply Nat.le_of_not_lt; intro hlt
      obtain ⟨t1, c1, x1, v1⟩ := f1
      obtain ⟨t2, c2, x2, v2⟩ := f2
      have g1 := Core.val64_fits r1; rw [v1] at g1
      have g2 := Core.val64_fits r2; rw [v2] at g2
      have d1 := Core.roundRatio_nearest Core.good_b64 (e0 := Core.b64.qmin) b1 (e1.symm.trans v1) g2.1 g2.2.1 (Int.le_refl _) (Int.le_refl _)
      have d2 := Core.roundRatio_nearest Core.good_b64 (e0 := Core.b64.qmin) b2 (e2.symm.trans v2) g1.1 g1.2.1 (Int.le_refl _) (Int.le_refl _)
      unfold Core.distance at d1 d2
      rw [own_in0] at d1 d2
      have z1 : Core.zmag Core.b64 (Core.val64 r1) = Core.inUnits c1 x1 Core.b64.qmin := by rw [v1]; rfl
      have z2 : Core.zmag Core.b64 (Core.val64 r2) = Core.inUnits c2 x2 Core.b64.qmin := by rw [v2]; rfl
      rw [← z1, ← z2] at d1 d2
      generalize hz1 : Core.zmag Core.b64 (Core.val64 r1) = Z1 at *
      generalize hz2 : Core.zmag Core.b64 (Core.val64 r2) = Z2 at *
      rw [← Int.natCast_mul, ← Int.natCast_mul] at d1 d2
      -- A1 < Z1 * B1 as well
      have k1 : A1 * B2 < Z1 * B1 * B2 := by
        have : A2 * B1 < Z1 * B2 * B1 := Nat.mul_lt_mul_of_pos_right (by omega) b1
        have e : Z1 * B2 * B1 = Z1 * B1 * B2 := by simp only [Nat.mul_assoc, Nat.mul_comm, Nat.mul_left_comm]
        omega
      have k2 : A1 < Z1 * B1 := Nat.lt_of_mul_lt_mul_right k1
      have k3 : Z2 * B1 * B2 < A2 * B1 := by
        have : Z2 * B1 * B2 < A1 * B2 := Nat.mul_lt_mul_of_pos_right (by omega) b2
        omega
      have k4 : Z2 * B2 < A2 := by
        have e : Z2 * B1 * B2 = Z2 * B2 * B1 := by simp only [Nat.mul_assoc, Nat.mul_comm, Nat.mul_left_comm]
        rw [e] at k3; exact Nat.lt_of_mul_lt_mul_right k3
      have m1 : (Z1 + Z2) * B1 ≤ 2 * A1 := by rw [Nat.add_mul]; omega
      have m2 : 2 * A2 ≤ (Z1 + Z2) * B2 := by rw [Nat.add_mul]; omega
      have m3 := Nat.mul_le_mul_right B2 m1
      have m4 := Nat.mul_le_mul_right B1 m2
      have e3 : (Z1 + Z2) * B1 * B2 = (Z1 + Z2) * B2 * B1 := by simp only [Nat.mul_assoc, Nat.mul_comm, Nat.mul_left_comm]
      have e4 : 2 * A1 * B2 = 2 * (A1 * B2) := Nat.mul_assoc _ _ _
      have e5 : 2 * A2 * B1 = 2 * (A2 * B1) := Nat.mul_assoc _ _ _
      have e6 : A1 * B2 = A2 * B1 := by omega
      have cg := Core.roundRatio_congr (f := Core.b64) (s := s1) (e := Core.b64.qmin) (e' := Core.b64.qmin) b1 b2 (by rw [own_pow0, Nat.mul_one, Nat.mul_one]; exact e6)
      have w1 := Core.zmag_roundRatio_le Core.good_b64 (s := s1) (A := A2) (B := B2) (e := Core.b64.qmin) (e0 := Core.b64.qmin) (V := Core.val64 r2) b2 (Core.val64_fits r2) n2 (Int.le_refl _) (Int.le_refl _)
      -- one sign or the other: the magnitudes are one
      have sg : Core.zmag Core.b64 (Core.roundRatio Core.b64 s1 A2 B2 Core.b64.qmin) = Core.zmag Core.b64 (Core.roundRatio Core.b64 s2 A2 B2 Core.b64.qmin) := by
        by_cases q : s1 = s2
        · rw [q]
        · have e : s2 = !s1 := by cases s1 <;> cases s2 <;> simp at q ⊢
          have ng := Core.negate_roundRatio Core.b64 s1 A2 B2 Core.b64.qmin
          rw [e, ← ng]
          cases Core.roundRatio Core.b64 s1 A2 B2 Core.b64.qmin <;> rfl
      rw [← cg, ← e1, ← e2, hz1, hz2] at sg
      omega
theorem own_rr_of_round {x : UInt64} {sg : Bool} {n : Nat} {e : Int} {A B : Nat} (hx : Core.val64 x = Core.round Core.b64 (.fin sg n e)) (hB : 0 < B) (h : n * B * 2 ^ (e - Core.b64.qmin).toNat = A * 1 * 2 ^ (Core.b64.qmin - e).toNat) : own_rr A B x :=
  ⟨hB, sg, hx.trans (Core.roundRatio_congr (f := Core.b64) (s := sg) (by decide) hB h)⟩
theorem own_rr_dmul {a b : UInt64} (ha : Core.DFin a) (hb : Core.DFin b) : own_rr ((own_zv a).natAbs * (own_zv b).natAbs) Core.one64 (FP.dmul a b) := by
  obtain ⟨s, c, q, ea⟩ := ha
  obtain ⟨t, d, r, eb⟩ := hb
  have fa := Core.val64_fits a; have fb := Core.val64_fits b
  rw [ea] at fa; rw [eb] at fb
  have h1 := fa.2.1; have h2 := fb.2.1
  have hq := Core.qmin_neg Core.good_b64
  have hv : Core.val64 (FP.dmul a b) = Core.round Core.b64 (.fin (s != t) (c * d) (q + r)) := by
    show Core.val64 (Core.dmul a b) = _
    rw [Core.val64_dmul, ea, eb]; rfl
  refine own_rr_of_round hv Core.one64_pos ?_
  rw [own_mag, own_mag, ea, eb]
  show _ = Core.inUnits c q Core.b64.qmin * Core.inUnits d r Core.b64.qmin * 1 * _
  unfold Core.inUnits
  rw [← Core.pow_qmin64, Nat.mul_one]
  have l : c * d * 2 ^ (-Core.b64.qmin).toNat * 2 ^ (q + r - Core.b64.qmin).toNat = c * d * 2 ^ ((-Core.b64.qmin).toNat + (q + r - Core.b64.qmin).toNat) := by rw [Nat.pow_add, Nat.mul_assoc (c * d)]
  have m : c * 2 ^ (q - Core.b64.qmin).toNat * (d * 2 ^ (r - Core.b64.qmin).toNat) * 2 ^ (Core.b64.qmin - (q + r)).toNat = c * d * 2 ^ ((q - Core.b64.qmin).toNat + (r - Core.b64.qmin).toNat + (Core.b64.qmin - (q + r)).toNat) := by
    rw [Nat.pow_add, Nat.pow_add]; simp only [Nat.mul_assoc, Nat.mul_comm, Nat.mul_left_comm]
  rw [l, m]; congr 2; omega
theorem own_rr_dadd {a b : UInt64} (ha : Core.DFin a) (hb : Core.DFin b) : own_rr (own_zv a + own_zv b).natAbs 1 (FP.dadd a b) := by
  obtain ⟨s, c, q, ea⟩ := ha
  obtain ⟨t, d, r, eb⟩ := hb
  have fa := Core.val64_fits a; have fb := Core.val64_fits b
  rw [ea] at fa; rw [eb] at fb
  obtain ⟨sg, n, e, h1, h2, h3⟩ := Core.sum_units fa fb
  have hv : Core.val64 (FP.dadd a b) = Core.round Core.b64 (.fin sg n e) := by
    show Core.val64 (Core.dadd a b) = _
    rw [Core.val64_dadd, ea, eb, h1]
  refine own_rr_of_round hv (by decide) ?_
  have z : (own_zv a + own_zv b).natAbs = Core.inUnits n e Core.b64.qmin := by
    unfold own_zv; rw [ea, eb, ← h3, Core.natAbs_signed]
  rw [z, Nat.mul_one, Nat.mul_one]
  unfold Core.inUnits
  rw [show (Core.b64.qmin - e).toNat = 0 by omega, Nat.pow_zero, Nat.mul_one]
theorem own_rr_ddiv {a b : UInt64} (ha : Core.DFin a) (hb : Core.DFin b) (hz : own_zv b ≠ 0) : own_rr ((own_zv a).natAbs * Core.one64) (own_zv b).natAbs (FP.ddiv a b) := by
  obtain ⟨s, c, q, ea⟩ := ha
  obtain ⟨t, d, r, eb⟩ := hb
  have fa := Core.val64_fits a; have fb := Core.val64_fits b
  rw [ea] at fa; rw [eb] at fb
  have h1 := fa.2.1; have h2 := fb.2.1
  have hq := Core.qmin_neg Core.good_b64
  have zb : own_zv b = Core.signed t (Core.inUnits d r Core.b64.qmin) := by unfold own_zv; rw [eb]; rfl
  have d0 : d ≠ 0 := fun h => hz (by rw [zb, h]; unfold Core.inUnits; rw [Nat.zero_mul]; exact Core.signed_zero t)
  have hv : Core.val64 (FP.ddiv a b) = Core.roundRatio Core.b64 (s != t) c d (q - r) := by
    show Core.val64 (Core.ddiv a b) = _
    rw [Core.val64_ddiv, ea, eb]; show (if d = 0 then _ else _) = _; rw [if_neg d0]
  refine ⟨by omega, s != t, hv.trans (Core.roundRatio_congr (Nat.pos_of_ne_zero d0) (by omega) ?_)⟩
  rw [own_mag, own_mag, ea, eb]
  show c * Core.inUnits d r Core.b64.qmin * _ = Core.inUnits c q Core.b64.qmin * Core.one64 * d * _
  unfold Core.inUnits
  rw [← Core.pow_qmin64]
  have l : c * (d * 2 ^ (r - Core.b64.qmin).toNat) * 2 ^ (q - r - Core.b64.qmin).toNat = c * d * 2 ^ ((r - Core.b64.qmin).toNat + (q - r - Core.b64.qmin).toNat) := by
    rw [Nat.pow_add]; simp only [Nat.mul_assoc, Nat.mul_comm, Nat.mul_left_comm]
  have m : c * 2 ^ (q - Core.b64.qmin).toNat * 2 ^ (-Core.b64.qmin).toNat * d * 2 ^ (Core.b64.qmin - (q - r)).toNat = c * d * 2 ^ ((q - Core.b64.qmin).toNat + (-Core.b64.qmin).toNat + (Core.b64.qmin - (q - r)).toNat) := by
    rw [Nat.pow_add, Nat.pow_add]; simp only [Nat.mul_assoc, Nat.mul_comm, Nat.mul_left_comm]
  rw [l, m]; congr 2; omega
end OwnFloat8
section OwnFloat9
open Jvm.FP Jvm.FP.Core
/-- a quotient by a power of two -/
theorem own_at_divp {c : Int} {j i : Nat} {a b : UInt64} (ha : own_at c (j + i) a) (hb : own_at 1 (1074 + i) b) (h : c.natAbs < 2 ^ 53) (hj : j ≤ 2045) : own_at c j (FP.ddiv a b) := by
  refine own_at_div ha hb (by decide) j ?_ h hj
  rw [Int.mul_one, show j + (1074 + i) = j + i + 1074 by omega]
theorem own_8d : own_at 1 (1074 + 3) (4620693217682128896 : UInt64) := ⟨by rw [Core.fin_bits]; decide, by decide +kernel⟩
theorem own_2d : own_at 1 (1074 + 1) (4611686018427387904 : UInt64) := ⟨by rw [Core.fin_bits]; decide, by decide +kernel⟩
end OwnFloat9
section OwnFloat10
open Jvm.FP Jvm.FP.Core
/-- a lies from 0 to X -/
def own_bd (X : Int) (a : UInt64) : Prop := Core.DFin a ∧ 0 ≤ own_zv a ∧ own_zv a ≤ X * own_U
theorem own_bd_of {N D X : Int} {r : UInt64} (h : own_rnd N D r) (hX : 0 ≤ X) (hX2 : X.natAbs < 2 ^ 53) (hD : 0 ≤ D) (h0 : 0 ≤ N) (h1 : N ≤ X * own_U * D) : own_bd X r := by
  obtain ⟨V, f, z⟩ := own_rep_is X hX2
  have a := h.2.1 0 own_is_0.1.ne_nan (by rw [own_is_0.2, Int.zero_mul, Int.zero_mul]; exact h0)
  have b := h.2.2 V f.ne_nan (by rw [z]; exact h1)
  rw [own_is_0.2, Int.zero_mul] at a
  have p : 0 ≤ X * own_U := Int.mul_nonneg hX (Int.le_of_lt own_U_pos)
  refine ⟨own_fin_of h.1 f (by rw [z] at b ⊢; omega), a, by rw [z] at b; exact b⟩
theorem own_bd_mul {X Y : Int} {a b : UInt64} (ha : own_bd X a) (hb : own_bd Y b) (hX : 0 ≤ X) (hY : 0 ≤ Y) (h : (X * Y).natAbs < 2 ^ 53) : own_bd (X * Y) (FP.dmul a b) := by
  have hU := own_U_pos
  refine own_bd_of (own_dmul_rnd ha.1 hb.1) (Int.mul_nonneg hX hY) h (Int.le_of_lt hU) (Int.mul_nonneg ha.2.1 hb.2.1) ?_
  have e : X * Y * own_U * own_U = (X * own_U) * (Y * own_U) := by simp only [Int.mul_assoc, Int.mul_comm, Int.mul_left_comm]
  rw [e]
  exact Int.mul_le_mul ha.2.2 hb.2.2 hb.2.1 (Int.mul_nonneg hX (Int.le_of_lt hU))
theorem own_bd_add {X Y : Int} {a b : UInt64} (ha : own_bd X a) (hb : own_bd Y b) (hX : 0 ≤ X) (hY : 0 ≤ Y) (h : (X + Y).natAbs < 2 ^ 53) : own_bd (X + Y) (FP.dadd a b) := by
  have h1 := ha.2.1; have h2 := hb.2.1; have h3 := ha.2.2; have h4 := hb.2.2
  refine own_bd_of (own_dadd_rnd ha.1 hb.1) (by omega) h (by decide) (by omega) ?_
  rw [Int.mul_one, Int.add_mul]; omega
theorem own_bd_div {X m : Int} {a b : UInt64} (ha : own_bd X a) (hb : Core.DFin b) (hp : 0 < own_zv b) (hm : own_U ≤ m * own_zv b) (hX : 0 ≤ X) (h0 : 0 ≤ m) (h : (X * m).natAbs < 2 ^ 53) : own_bd (X * m) (FP.ddiv a b) := by
  have hU := own_U_pos
  have hr := own_ddiv_rnd ha.1 hb (by omega)
  rw [if_pos hp, Int.natAbs_of_nonneg (Int.le_of_lt hp)] at hr
  refine own_bd_of hr (Int.mul_nonneg hX h0) h (Int.le_of_lt hp) (Int.mul_nonneg ha.2.1 (Int.le_of_lt hU)) ?_
  have e : X * m * own_U * own_zv b = (X * own_U) * (m * own_zv b) := by simp only [Int.mul_assoc, Int.mul_comm, Int.mul_left_comm]
  rw [e]
  exact Int.mul_le_mul ha.2.2 hm (Int.le_of_lt hU) (Int.mul_nonneg hX (Int.le_of_lt hU))
theorem own_bd_is {i : Int} {a : UInt64} (h : own_is i a) (h0 : 0 ≤ i) {X : Int} (hX : i ≤ X) : own_bd X a := ⟨h.1, by rw [h.2]; exact Int.mul_nonneg h0 (Int.le_of_lt own_U_pos), by rw [h.2]; exact Int.mul_le_mul_of_nonneg_right hX (Int.le_of_lt own_U_pos)⟩
end OwnFloat10

theorem own_sS {a0 : Array Value} {Z : State} (hw : ∀ d ∈ tables_1, d.before a0 Z = true) : own_S Z := own_S_of (a0 := a0) (fun i hi => by
  match i, hi with
  | 0, _ => exact Or.inl (own_W hw 17 rfl)
  | 1, _ => exact Or.inl (own_W hw 21 rfl)
  | 2, _ => exact Or.inl (own_W hw 24 rfl)
  | 3, _ => exact Or.inl (own_W hw 27 rfl)
  | 4, _ => exact Or.inl (own_W hw 29 rfl)
  | 5, _ => exact Or.inl (own_W hw 31 rfl)
  | 6, _ => exact Or.inl (own_W hw 33 rfl)
  | 7, _ => exact Or.inl (own_W hw 35 rfl)
  | 8, _ => exact Or.inl (own_W hw 37 rfl)
  | 9, _ => exact Or.inl (own_W hw 39 rfl)
  | 10, _ => exact Or.inl (own_W hw 42 rfl)
  | 11, _ => exact Or.inl (own_W hw 46 rfl)
  | 12, _ => exact Or.inl (own_W hw 48 rfl)
  | 13, _ => exact Or.inl (own_W hw 50 rfl)
  | 14, _ => exact Or.inl (own_W hw 52 rfl)
  | 15, _ => exact Or.inl (own_W hw 143 rfl)
  | 16, _ => exact Or.inl (own_W hw 190 rfl)
  | 17, _ => exact Or.inl (own_W hw 122 rfl)
  | 18, _ => exact Or.inl (own_W hw 44 rfl)
  | 19, _ => exact Or.inl (own_W hw 136 rfl)
  | 20, _ => exact Or.inl (own_W hw 115 rfl)
  | 21, _ => exact Or.inr (own_W hw 113 rfl)
  | k + 22, hk => omega)
theorem own_pn0 : plainName "com/example/placewright/placewright/solver/BasisFactorization$Entries" = true := by first | (simp [plainName, overriddenIn]; done) | decide +kernel
theorem own_d5_0 : decode prog_16_method_1_code 0 = .ok (.aload_n 0, 1) := by decide +kernel
theorem own_d5_1 : decode prog_16_method_1_code 1 = .ok (.invokespecial 1, 3) := by decide +kernel
theorem own_d5_4 : decode prog_16_method_1_code 4 = .ok (.aload_n 0, 1) := by decide +kernel
theorem own_d5_5 : decode prog_16_method_1_code 5 = .ok (.iconst 1, 1) := by decide +kernel
theorem own_d5_6 : decode prog_16_method_1_code 6 = .ok (.newarray .int, 2) := by decide +kernel
theorem own_d5_8 : decode prog_16_method_1_code 8 = .ok (.dup, 1) := by decide +kernel
theorem own_d5_9 : decode prog_16_method_1_code 9 = .ok (.iconst 0, 1) := by decide +kernel
theorem own_d5_10 : decode prog_16_method_1_code 10 = .ok (.iconst 0, 1) := by decide +kernel
theorem own_d5_11 : decode prog_16_method_1_code 11 = .ok (.iastore, 1) := by decide +kernel
theorem own_d5_12 : decode prog_16_method_1_code 12 = .ok (.putfield 7, 3) := by decide +kernel
theorem own_d5_15 : decode prog_16_method_1_code 15 = .ok (.aload_n 0, 1) := by decide +kernel
theorem own_d5_16 : decode prog_16_method_1_code 16 = .ok (.bipush 16, 2) := by decide +kernel
theorem own_d5_18 : decode prog_16_method_1_code 18 = .ok (.newarray .int, 2) := by decide +kernel
theorem own_d5_20 : decode prog_16_method_1_code 20 = .ok (.putfield 13, 3) := by decide +kernel
theorem own_d5_23 : decode prog_16_method_1_code 23 = .ok (.aload_n 0, 1) := by decide +kernel
theorem own_d5_24 : decode prog_16_method_1_code 24 = .ok (.bipush 16, 2) := by decide +kernel
theorem own_d5_26 : decode prog_16_method_1_code 26 = .ok (.newarray .double, 2) := by decide +kernel
theorem own_d5_28 : decode prog_16_method_1_code 28 = .ok (.putfield 16, 3) := by decide +kernel
theorem own_d5_31 : decode prog_16_method_1_code 31 = .ok (.return_, 1) := by decide +kernel
theorem own_ef5 (m : MethodId) (r0 : Addr) : entryFrame m #[(.ref r0)] 1 = mkF m 0 #[.val (.ref r0)] [] := by first | (simp [entryFrame, mkF, argsToLocals, Value.category]; done) | rfl
def own_Q5 (Z : State) (r0 : Addr) (w_start_r0 : Value) (w_index_r0 : Value) (w_value_r0 : Value) (h0 : Heap) (n0 : Nat) (v : Option Value) (h : Heap) (L : List Loc) : Prop := v = none ∧ Fr n0 L ∧ Keep h0 h [r0] ∧ Exa Z h r0 "com/example/placewright/placewright/solver/BasisFactorization$Entries"
set_option maxRecDepth 65536 in
set_option maxHeartbeats 40000000 in
theorem own_rm5 (l : Launch) (Z : State) (a0 : Array Value) (hw : ∀ d ∈ tables_1, d.before a0 Z = true) (ws : List Jvm.Cond) (r0 : Addr) (w_start_r0 : Value) (w_index_r0 : Value) (w_value_r0 : Value) (h0 : Heap) (n0 : Nat) (Z0 : n0 ≤ h0.size) (E_r0 : Exa Z h0 r0 "com/example/placewright/placewright/solver/BasisFactorization$Entries") (F_start_r0 : Fld Z h0 r0 "com/example/placewright/placewright/solver/BasisFactorization$Entries" "start" "[I" w_start_r0) (g_r0 : n0 ≤ r0) (F_index_r0 : Fld Z h0 r0 "com/example/placewright/placewright/solver/BasisFactorization$Entries" "index" "[I" w_index_r0) (F_value_r0 : Fld Z h0 r0 "com/example/placewright/placewright/solver/BasisFactorization$Entries" "value" "[D" w_value_r0) :
    MetFree l (⟨"com/example/placewright/placewright/solver/BasisFactorization$Entries", "<init>", "()V"⟩ : MethodName) (head1 (Jvm.Cond.code (⟨"com/example/placewright/placewright/solver/BasisFactorization$Entries", "<init>", "()V"⟩ : MethodName) prog_16_method_1_code 1 none :: ws) ({ frames := 1, cells := 3, slots := 33, locals := 12 } : Room)) (fun a U => a = #[(.ref r0)] ∧ Z.Warmed39 U.vm ∧ U.heap = h0) (fun _ _ _ _ _ => True) (fun _ U o U' => ∃ v L, o = .returned v ∧ own_Q5 Z r0 w_start_r0 w_index_r0 w_value_r0 h0 n0 v U'.heap L ∧ FrameEnd U o U' L ({ frames := 1, cells := 3, slots := 33, locals := 12 } : Room).cells ({ frames := 1, cells := 3, slots := 33, locals := 12 } : Room).slots) := by
  refine MetFree.of_bodySF (plainFor_of_name own_pn0) hisR ?_
  intro p e s m args below meth c s₁ Bd hml0 hP hK
  obtain ⟨rfl, hZ, hh⟩ := hP
  have hx := Bd.exec
  have hby := Bd.bytes
  have hml : c.maxLocals = 1 := hml0
  have hown : s.vm.findClass "com/example/placewright/placewright/solver/BasisFactorization$Entries" = some m.cls := findClass_of_methodNamed Bd.named
  have hnm := (name_of_methodNamed Bd.named Bd.method).1
  have X0 : Stand p l e ({ frames := 1, cells := 3, slots := 33, locals := 12 } : Room) s m #[(.ref r0)] below meth c s₁ [] 0 0 := Stand.of_body Bd
  have e0 : s₁.heap = h0 := by rw [← hh, Bd.state]; rfl
  have N0 := Fr.nil n0
  have Zr : h0.size ≤ h0.size := Nat.le_refl _
  have pre0 : ∀ t, Steps p.tables e below (s₁.setTop (mkF m 0 #[.val (.ref r0)] [])) t → Steps p.tables e below (s₁.setTop (entryFrame m #[(.ref r0)] 1)) t := fun t k => castTop (own_ef5 m r0) k
  obtain ⟨Tn1, Xn1, en1, stn1⟩ := initO X0 hx hZ hown (own_W hw 74 rfl) (own_W hw 12 rfl) (own_W hw 13 rfl) e0 (g := (mkF m 1 #[.val (.ref r0)] [(.ref r0)])) rfl (by rw [hml]; rfl) rfl (hb hby own_d5_1) (by decide) (W := 0) (by show 2 * 0 + _ ≤ _; exact Nat.le_of_eq rfl) (by decide)
  obtain ⟨Tn2, hn2, kn2, Xn2, en2, En2, An2, Exn2, stn2⟩ := newPE Xn1 hx hZ (own_W hw 25 rfl) en1 (g := (mkF m 6 #[.val (.ref r0)] [(.int 1), (.ref r0)])) rfl (hb hby own_d5_6) rfl (by decide) (cap := 1) (by decide) (by decide) (by decide) (by decide) (ad := "[I") (by decide)
  obtain ⟨bn2, gn2⟩ : ∃ z, z = h0.size := ⟨_, rfl⟩
  rw [← gn2] at An2 Exn2 stn2
  have g_bn2 : n0 ≤ bn2 := Nat.le_trans Z0 (Nat.le_of_eq gn2.symm)
  have sz_bn2 : h0.size ≤ bn2 := Nat.le_trans Zr (Nat.le_of_eq gn2.symm)
  have sz3 : h0.size ≤ hn2.size := Nat.le_trans Zr En2.1
  have V_bn2 : Arv Z hn2 bn2 kn2 .int (1 : Int32) (own_G (1 : Int32) (own_all (.int 0))) (.int 0) := own_newG An2 (by decide)
  obtain ⟨clo4, Aro4, qo4, So4, No4, Ho4, Go4⟩ := id V_bn2
  have hi5 := inb_of (j := (0 : Int32)) So4 ⟨by decide, by decide⟩
  obtain ⟨To6, ho6, Xo6, eo6, Wo6, sto6⟩ := stI Xn2 hx hZ en2 Aro4 (j := (0 : Int32)) hi5 (g := (mkF m 11 #[.val (.ref r0)] [(.int 0), (.int 0), (.ref bn2), (.ref bn2), (.ref r0)])) rfl rfl (hb hby own_d5_11)
  have Vwo6 : Arv Z ho6 bn2 kn2 .int (1 : Int32) (own_G (1 : Int32) (own_up (own_all (.int 0)) 0 (.int 0))) (.int 0) := own_setG (Arv.set Aro4 qo4 So4 No4 Ho4 Go4 rfl Wo6 0 rfl (own_ltG (by decide)))
  have sz7 : h0.size ≤ ho6.size := Nat.le_trans sz3 (Nat.le_of_eq Wo6.size.symm)
  have Nfo6 := Fr.snoc Xo6 N0 g_bn2
  have F8 := ((E_r0.ext En2).wr Wo6)
  have ne9 : bn2 ≠ r0 := (Ne.symm (Nat.ne_of_lt (Nat.lt_of_lt_of_le F_start_r0.lt (Nat.le_of_eq gn2.symm))))
  have F10 := ((F_start_r0.ext En2).other Wo6 (Or.inl (Ne.symm ne9)))
  obtain ⟨Tn11, hn11, Xn11, en11, Wn11, stn11⟩ := putF Xo6 hx hZ hown (host := "") (Or.inl (own_W hw 75 rfl)) Via.refl eo6 F10 F8 (Or.inl (own_W hw 76 rfl)) (own_W hw 69 rfl) (ty := (.array .int)) (by decide) rfl rfl (g := (mkF m 12 #[.val (.ref r0)] [(.ref bn2), (.ref r0)])) rfl rfl (hb hby own_d5_12)
  have Fwn11 : Fld Z hn11 r0 "com/example/placewright/placewright/solver/BasisFactorization$Entries" "start" "[I" (.ref bn2) := F10.same Wn11
  have sz12 : h0.size ≤ hn11.size := Nat.le_trans sz7 (Nat.le_of_eq Wn11.size.symm)
  have Nn11 := Fr.snoc Xn11 Nfo6 g_r0
  obtain ⟨Tn13, hn13, kn13, Xn13, en13, En13, An13, Exn13, stn13⟩ := newPE Xn11 hx hZ (own_W hw 25 rfl) en11 (g := (mkF m 18 #[.val (.ref r0)] [(.int 16), (.ref r0)])) rfl (hb hby own_d5_18) rfl (by decide) (cap := 16) (by decide) (by decide) (by decide) (by decide) (ad := "[I") (by decide)
  obtain ⟨bn13, gn13⟩ : ∃ z, z = hn11.size := ⟨_, rfl⟩
  rw [← gn13] at An13 Exn13 stn13
  have g_bn13 : n0 ≤ bn13 := Nat.le_trans (Nat.le_trans Z0 sz12) (Nat.le_of_eq gn13.symm)
  have sz_bn13 : h0.size ≤ bn13 := Nat.le_trans sz12 (Nat.le_of_eq gn13.symm)
  have sz14 : h0.size ≤ hn13.size := Nat.le_trans sz12 En13.1
  have V_bn13 : Arv Z hn13 bn13 kn13 .int (16 : Int32) (own_G (16 : Int32) (own_all (.int 0))) (.int 0) := own_newG An13 (by decide)
  have F15 := ((F8.wr Wn11).ext En13)
  have F16 := ((((F_index_r0.ext En2).other Wo6 (Or.inl (Ne.symm ne9))).other Wn11 (Or.inr (slot_ne (Or.inl (own_W hw 78 rfl)) (Or.inl (own_W hw 76 rfl)) (by decide) (t := (.array .int)) (t' := (.array .int)) (by decide) (by decide)))).ext En13)
  obtain ⟨Tn17, hn17, Xn17, en17, Wn17, stn17⟩ := putF Xn13 hx hZ hown (host := "") (Or.inl (own_W hw 77 rfl)) Via.refl en13 F16 F15 (Or.inl (own_W hw 78 rfl)) (own_W hw 69 rfl) (ty := (.array .int)) (by decide) rfl rfl (g := (mkF m 20 #[.val (.ref r0)] [(.ref bn13), (.ref r0)])) rfl rfl (hb hby own_d5_20)
  have Fwn17 : Fld Z hn17 r0 "com/example/placewright/placewright/solver/BasisFactorization$Entries" "index" "[I" (.ref bn13) := F16.same Wn17
  have sz18 : h0.size ≤ hn17.size := Nat.le_trans sz14 (Nat.le_of_eq Wn17.size.symm)
  have Nn17 := Fr.snoc Xn17 Nn11 g_r0
  obtain ⟨Tn19, hn19, kn19, Xn19, en19, En19, An19, Exn19, stn19⟩ := newPE Xn17 hx hZ (own_W hw 22 rfl) en17 (g := (mkF m 26 #[.val (.ref r0)] [(.int 16), (.ref r0)])) rfl (hb hby own_d5_26) rfl (by decide) (cap := 16) (by decide) (by decide) (by decide) (by decide) (ad := "[D") (by decide)
  obtain ⟨bn19, gn19⟩ : ∃ z, z = hn17.size := ⟨_, rfl⟩
  rw [← gn19] at An19 Exn19 stn19
  have g_bn19 : n0 ≤ bn19 := Nat.le_trans (Nat.le_trans Z0 sz18) (Nat.le_of_eq gn19.symm)
  have sz_bn19 : h0.size ≤ bn19 := Nat.le_trans sz18 (Nat.le_of_eq gn19.symm)
  have sz20 : h0.size ≤ hn19.size := Nat.le_trans sz18 En19.1
  have V_bn19 : Arv Z hn19 bn19 kn19 .double (16 : Int32) (own_G (16 : Int32) (own_all (.double 0))) (.double 0) := own_newG An19 (by decide)
  have F21 := ((F15.wr Wn17).ext En19)
  have F22 := ((((((F_value_r0.ext En2).other Wo6 (Or.inl (Ne.symm ne9))).other Wn11 (Or.inr (slot_ne (Or.inl (own_W hw 80 rfl)) (Or.inl (own_W hw 76 rfl)) (by decide) (t := (.array .double)) (t' := (.array .int)) (by decide) (by decide)))).ext En13).other Wn17 (Or.inr (slot_ne (Or.inl (own_W hw 80 rfl)) (Or.inl (own_W hw 78 rfl)) (by decide) (t := (.array .double)) (t' := (.array .int)) (by decide) (by decide)))).ext En19)
  obtain ⟨Tn23, hn23, Xn23, en23, Wn23, stn23⟩ := putF Xn19 hx hZ hown (host := "") (Or.inl (own_W hw 79 rfl)) Via.refl en19 F22 F21 (Or.inl (own_W hw 80 rfl)) (own_W hw 69 rfl) (ty := (.array .double)) (by decide) rfl rfl (g := (mkF m 28 #[.val (.ref r0)] [(.ref bn19), (.ref r0)])) rfl rfl (hb hby own_d5_28)
  have Fwn23 : Fld Z hn23 r0 "com/example/placewright/placewright/solver/BasisFactorization$Entries" "value" "[D" (.ref bn19) := F22.same Wn23
  have sz24 : h0.size ≤ hn23.size := Nat.le_trans sz20 (Nat.le_of_eq Wn23.size.symm)
  have Nn23 := Fr.snoc Xn23 Nn17 g_r0
  obtain ⟨fs, hr, hrun, hended, hW, hsame⟩ := Xn23.leave (v := none) (fun _ => rfl)
  refine ⟨_, _, pre0 _ (?_), hrun, hended, _, _, rfl, ?_, ⟨_, rfl⟩, hW, hsame.mono (by decide) (by decide)⟩
  · show Steps p.tables e below (s₁.setTop (mkF m 0 #[.val (.ref r0)] [])) _
    refine XS.aloadN X0.here hx rfl (hb hby own_d5_0) rfl rfl ?_
    refine stn1 _ ?_
    refine XS.aloadN Xn1.here hx rfl (hb hby own_d5_4) rfl rfl ?_
    refine XS.iconst Xn1.here hx rfl (hb hby own_d5_5) ?_
    refine stn2 _ ?_
    show Steps p.tables e below (Tn2.setTop (mkF m 8 #[.val (.ref r0)] [(.ref bn2), (.ref r0)])) _
    refine XS.dup Xn2.here hx rfl (hb hby own_d5_8) rfl rfl ?_
    refine XS.iconst Xn2.here hx rfl (hb hby own_d5_9) ?_
    refine XS.iconst Xn2.here hx rfl (hb hby own_d5_10) ?_
    refine sto6 _ ?_
    show Steps p.tables e below (To6.setTop (mkF m 12 #[.val (.ref r0)] [(.ref bn2), (.ref r0)])) _
    refine stn11 _ ?_
    refine XS.aloadN Xn11.here hx rfl (hb hby own_d5_15) rfl rfl ?_
    refine XS.bipush Xn11.here hx rfl (hb hby own_d5_16) ?_
    refine stn13 _ ?_
    show Steps p.tables e below (Tn13.setTop (mkF m 20 #[.val (.ref r0)] [(.ref bn13), (.ref r0)])) _
    refine stn17 _ ?_
    refine XS.aloadN Xn17.here hx rfl (hb hby own_d5_23) rfl rfl ?_
    refine XS.bipush Xn17.here hx rfl (hb hby own_d5_24) ?_
    refine stn19 _ ?_
    show Steps p.tables e below (Tn19.setTop (mkF m 28 #[.val (.ref r0)] [(.ref bn19), (.ref r0)])) _
    refine stn23 _ ?_
    show Steps p.tables e below (Tn23.setTop (mkF m 31 #[.val (.ref r0)] [])) _
    exact Xn23.returnOut hx Bd.returns (hb hby own_d5_31) hr
  · show own_Q5 Z r0 w_start_r0 w_index_r0 w_value_r0 h0 n0 _ Tn23.heap _
    rw [en23]
    exact ⟨rfl, Nn23, ((((((((Keep.refl h0 [r0]).ext En2).wr Wo6 (Or.inr sz_bn2)).wr Wn11 (Or.inl (List.mem_of_getElem? (i := 0) rfl))).ext En13).wr Wn17 (Or.inl (List.mem_of_getElem? (i := 0) rfl))).ext En19).wr Wn23 (Or.inl (List.mem_of_getElem? (i := 0) rfl))), (F21.wr Wn23)⟩
theorem own_pn1 : plainName "com/example/placewright/placewright/solver/BasisFactorization$Lists" = true := by first | (simp [plainName, overriddenIn]; done) | decide +kernel
theorem own_d6_0 : decode prog_17_method_1_code 0 = .ok (.aload_n 0, 1) := by decide +kernel
theorem own_d6_1 : decode prog_17_method_1_code 1 = .ok (.invokespecial 1, 3) := by decide +kernel
theorem own_d6_4 : decode prog_17_method_1_code 4 = .ok (.aload_n 0, 1) := by decide +kernel
theorem own_d6_5 : decode prog_17_method_1_code 5 = .ok (.iload_n 1, 1) := by decide +kernel
theorem own_d6_6 : decode prog_17_method_1_code 6 = .ok (.anewarray 7, 3) := by decide +kernel
theorem own_d6_9 : decode prog_17_method_1_code 9 = .ok (.putfield 9, 3) := by decide +kernel
theorem own_d6_12 : decode prog_17_method_1_code 12 = .ok (.aload_n 0, 1) := by decide +kernel
theorem own_d6_13 : decode prog_17_method_1_code 13 = .ok (.iload_n 1, 1) := by decide +kernel
theorem own_d6_14 : decode prog_17_method_1_code 14 = .ok (.anewarray 15, 3) := by decide +kernel
theorem own_d6_17 : decode prog_17_method_1_code 17 = .ok (.putfield 17, 3) := by decide +kernel
theorem own_d6_20 : decode prog_17_method_1_code 20 = .ok (.aload_n 0, 1) := by decide +kernel
theorem own_d6_21 : decode prog_17_method_1_code 21 = .ok (.iload_n 1, 1) := by decide +kernel
theorem own_d6_22 : decode prog_17_method_1_code 22 = .ok (.newarray .int, 2) := by decide +kernel
theorem own_d6_24 : decode prog_17_method_1_code 24 = .ok (.putfield 21, 3) := by decide +kernel
theorem own_d6_27 : decode prog_17_method_1_code 27 = .ok (.iconst 0, 1) := by decide +kernel
theorem own_d6_28 : decode prog_17_method_1_code 28 = .ok (.istore_n 2, 1) := by decide +kernel
theorem own_d6_29 : decode prog_17_method_1_code 29 = .ok (.iload_n 2, 1) := by decide +kernel
theorem own_d6_30 : decode prog_17_method_1_code 30 = .ok (.iload_n 1, 1) := by decide +kernel
theorem own_d6_31 : decode prog_17_method_1_code 31 = .ok (.if_icmp .ge 27, 3) := by decide +kernel
theorem own_d6_58 : decode prog_17_method_1_code 58 = .ok (.return_, 1) := by decide +kernel
theorem own_ef6 (m : MethodId) (r0 : Addr) : entryFrame m #[(.ref r0), (.int 0)] 3 = mkF m 0 #[.val (.ref r0), .val (.int 0), .unset] [] := by first | (simp [entryFrame, mkF, argsToLocals, Value.category]; done) | rfl
def own_Q6 (Z : State) (r0 : Addr) (w_index_r0 : Value) (w_value_r0 : Value) (w_length_r0 : Value) (h0 : Heap) (n0 : Nat) (v : Option Value) (h : Heap) (L : List Loc) : Prop := v = none ∧ Fr n0 L ∧ Keep h0 h [r0] ∧ Exa Z h r0 "com/example/placewright/placewright/solver/BasisFactorization$Lists"
set_option maxRecDepth 65536 in
set_option maxHeartbeats 40000000 in
theorem own_rm6 (l : Launch) (Z : State) (a0 : Array Value) (hw : ∀ d ∈ tables_1, d.before a0 Z = true) (ws : List Jvm.Cond) (r0 : Addr) (w_index_r0 : Value) (w_value_r0 : Value) (w_length_r0 : Value) (h0 : Heap) (n0 : Nat) (Z0 : n0 ≤ h0.size) (E_r0 : Exa Z h0 r0 "com/example/placewright/placewright/solver/BasisFactorization$Lists") (F_index_r0 : Fld Z h0 r0 "com/example/placewright/placewright/solver/BasisFactorization$Lists" "index" "[[I" w_index_r0) (g_r0 : n0 ≤ r0) (F_value_r0 : Fld Z h0 r0 "com/example/placewright/placewright/solver/BasisFactorization$Lists" "value" "[[D" w_value_r0) (F_length_r0 : Fld Z h0 r0 "com/example/placewright/placewright/solver/BasisFactorization$Lists" "length" "[I" w_length_r0) :
    MetFree l (⟨"com/example/placewright/placewright/solver/BasisFactorization$Lists", "<init>", "(I)V"⟩ : MethodName) (head1 (Jvm.Cond.code (⟨"com/example/placewright/placewright/solver/BasisFactorization$Lists", "<init>", "(I)V"⟩ : MethodName) prog_17_method_1_code 3 none :: ws) ({ frames := 1, cells := 3, slots := 0, locals := 12 } : Room)) (fun a U => a = #[(.ref r0), (.int 0)] ∧ Z.Warmed39 U.vm ∧ U.heap = h0) (fun _ _ _ _ _ => True) (fun _ U o U' => ∃ v L, o = .returned v ∧ own_Q6 Z r0 w_index_r0 w_value_r0 w_length_r0 h0 n0 v U'.heap L ∧ FrameEnd U o U' L ({ frames := 1, cells := 3, slots := 0, locals := 12 } : Room).cells ({ frames := 1, cells := 3, slots := 0, locals := 12 } : Room).slots) := by
  refine MetFree.of_bodySF (plainFor_of_name own_pn1) hisR ?_
  intro p e s m args below meth c s₁ Bd hml0 hP hK
  obtain ⟨rfl, hZ, hh⟩ := hP
  have hx := Bd.exec
  have hby := Bd.bytes
  have hml : c.maxLocals = 3 := hml0
  have hown : s.vm.findClass "com/example/placewright/placewright/solver/BasisFactorization$Lists" = some m.cls := findClass_of_methodNamed Bd.named
  have hnm := (name_of_methodNamed Bd.named Bd.method).1
  have X0 : Stand p l e ({ frames := 1, cells := 3, slots := 0, locals := 12 } : Room) s m #[(.ref r0), (.int 0)] below meth c s₁ [] 0 0 := Stand.of_body Bd
  have e0 : s₁.heap = h0 := by rw [← hh, Bd.state]; rfl
  have N0 := Fr.nil n0
  have Zr : h0.size ≤ h0.size := Nat.le_refl _
  have pre0 : ∀ t, Steps p.tables e below (s₁.setTop (mkF m 0 #[.val (.ref r0), .val (.int 0), .unset] [])) t → Steps p.tables e below (s₁.setTop (entryFrame m #[(.ref r0), (.int 0)] 3)) t := fun t k => castTop (own_ef6 m r0) k
  obtain ⟨Tn1, Xn1, en1, stn1⟩ := initO X0 hx hZ hown (own_W hw 91 rfl) (own_W hw 12 rfl) (own_W hw 13 rfl) e0 (g := (mkF m 1 #[.val (.ref r0), .val (.int 0), .unset] [(.ref r0)])) rfl (by rw [hml]; rfl) rfl (hb hby own_d6_1) (by decide) (W := 0) (by show 2 * 0 + _ ≤ _; exact Nat.le_of_eq rfl) (by decide)
  obtain ⟨Tn2, hn2, kn2, Xn2, en2, En2, An2, Exn2, On2, stn2⟩ := newRA Xn1 hx hZ hown (ty := .int) (C := "[I") (by decide) (own_W hw 92 rfl) (own_W hw 15 rfl) en1 (g := (mkF m 6 #[.val (.ref r0), .val (.int 0), .unset] [(.int 0), (.ref r0)])) rfl (hb hby own_d6_6) rfl (by decide) (cap := 0) (by decide) (by decide) (by decide) (by decide) (ad := "[[I") (by decide)
  obtain ⟨bn2, gn2⟩ : ∃ z, z = h0.size := ⟨_, rfl⟩
  rw [← gn2] at An2 Exn2 stn2
  have g_bn2 : n0 ≤ bn2 := Nat.le_trans Z0 (Nat.le_of_eq gn2.symm)
  have sz_bn2 : h0.size ≤ bn2 := Nat.le_trans Zr (Nat.le_of_eq gn2.symm)
  have sz3 : h0.size ≤ hn2.size := Nat.le_trans Zr En2.1
  have V_bn2 : Arv Z hn2 bn2 kn2 (.array .int) (0 : Int32) (own_G (0 : Int32) (own_all .null)) .null := own_newG An2 (by decide)
  have F4 := (E_r0.ext En2)
  have F5 := (F_index_r0.ext En2)
  obtain ⟨Tn6, hn6, Xn6, en6, Wn6, stn6⟩ := putF Xn2 hx hZ hown (host := "") (Or.inl (own_W hw 93 rfl)) Via.refl en2 F5 F4 (Or.inr ⟨(own_W hw 94 rfl), rfl, hnm⟩) (own_W hw 86 rfl) (ty := (.array (.array .int))) (by decide) rfl rfl (g := (mkF m 9 #[.val (.ref r0), .val (.int 0), .unset] [(.ref bn2), (.ref r0)])) rfl rfl (hb hby own_d6_9)
  have Fwn6 : Fld Z hn6 r0 "com/example/placewright/placewright/solver/BasisFactorization$Lists" "index" "[[I" (.ref bn2) := F5.same Wn6
  have sz7 : h0.size ≤ hn6.size := Nat.le_trans sz3 (Nat.le_of_eq Wn6.size.symm)
  have Nn6 := Fr.snoc Xn6 N0 g_r0
  obtain ⟨Tn8, hn8, kn8, Xn8, en8, En8, An8, Exn8, On8, stn8⟩ := newRA Xn6 hx hZ hown (ty := .double) (C := "[D") (by decide) (own_W hw 95 rfl) (own_W hw 19 rfl) en6 (g := (mkF m 14 #[.val (.ref r0), .val (.int 0), .unset] [(.int 0), (.ref r0)])) rfl (hb hby own_d6_14) rfl (by decide) (cap := 0) (by decide) (by decide) (by decide) (by decide) (ad := "[[D") (by decide)
  obtain ⟨bn8, gn8⟩ : ∃ z, z = hn6.size := ⟨_, rfl⟩
  rw [← gn8] at An8 Exn8 stn8
  have g_bn8 : n0 ≤ bn8 := Nat.le_trans (Nat.le_trans Z0 sz7) (Nat.le_of_eq gn8.symm)
  have sz_bn8 : h0.size ≤ bn8 := Nat.le_trans sz7 (Nat.le_of_eq gn8.symm)
  have sz9 : h0.size ≤ hn8.size := Nat.le_trans sz7 En8.1
  have V_bn8 : Arv Z hn8 bn8 kn8 (.array .double) (0 : Int32) (own_G (0 : Int32) (own_all .null)) .null := own_newG An8 (by decide)
  have F10 := ((F4.wr Wn6).ext En8)
  have F11 := (((F_value_r0.ext En2).other Wn6 (Or.inr (slot_ne (Or.inr (own_W hw 97 rfl)) (Or.inr (own_W hw 94 rfl)) (by decide) (t := (.array (.array .double))) (t' := (.array (.array .int))) (by decide) (by decide)))).ext En8)
  obtain ⟨Tn12, hn12, Xn12, en12, Wn12, stn12⟩ := putF Xn8 hx hZ hown (host := "") (Or.inl (own_W hw 96 rfl)) Via.refl en8 F11 F10 (Or.inr ⟨(own_W hw 97 rfl), rfl, hnm⟩) (own_W hw 86 rfl) (ty := (.array (.array .double))) (by decide) rfl rfl (g := (mkF m 17 #[.val (.ref r0), .val (.int 0), .unset] [(.ref bn8), (.ref r0)])) rfl rfl (hb hby own_d6_17)
  have Fwn12 : Fld Z hn12 r0 "com/example/placewright/placewright/solver/BasisFactorization$Lists" "value" "[[D" (.ref bn8) := F11.same Wn12
  have sz13 : h0.size ≤ hn12.size := Nat.le_trans sz9 (Nat.le_of_eq Wn12.size.symm)
  have Nn12 := Fr.snoc Xn12 Nn6 g_r0
  obtain ⟨Tn14, hn14, kn14, Xn14, en14, En14, An14, Exn14, stn14⟩ := newPE Xn12 hx hZ (own_W hw 25 rfl) en12 (g := (mkF m 22 #[.val (.ref r0), .val (.int 0), .unset] [(.int 0), (.ref r0)])) rfl (hb hby own_d6_22) rfl (by decide) (cap := 0) (by decide) (by decide) (by decide) (by decide) (ad := "[I") (by decide)
  obtain ⟨bn14, gn14⟩ : ∃ z, z = hn12.size := ⟨_, rfl⟩
  rw [← gn14] at An14 Exn14 stn14
  have g_bn14 : n0 ≤ bn14 := Nat.le_trans (Nat.le_trans Z0 sz13) (Nat.le_of_eq gn14.symm)
  have sz_bn14 : h0.size ≤ bn14 := Nat.le_trans sz13 (Nat.le_of_eq gn14.symm)
  have sz15 : h0.size ≤ hn14.size := Nat.le_trans sz13 En14.1
  have V_bn14 : Arv Z hn14 bn14 kn14 .int (0 : Int32) (own_G (0 : Int32) (own_all (.int 0))) (.int 0) := own_newG An14 (by decide)
  have F16 := ((F10.wr Wn12).ext En14)
  have F17 := (((((F_length_r0.ext En2).other Wn6 (Or.inr (slot_ne (Or.inr (own_W hw 99 rfl)) (Or.inr (own_W hw 94 rfl)) (by decide) (t := (.array .int)) (t' := (.array (.array .int))) (by decide) (by decide)))).ext En8).other Wn12 (Or.inr (slot_ne (Or.inr (own_W hw 99 rfl)) (Or.inr (own_W hw 97 rfl)) (by decide) (t := (.array .int)) (t' := (.array (.array .double))) (by decide) (by decide)))).ext En14)
  obtain ⟨Tn18, hn18, Xn18, en18, Wn18, stn18⟩ := putF Xn14 hx hZ hown (host := "") (Or.inl (own_W hw 98 rfl)) Via.refl en14 F17 F16 (Or.inr ⟨(own_W hw 99 rfl), rfl, hnm⟩) (own_W hw 86 rfl) (ty := (.array .int)) (by decide) rfl rfl (g := (mkF m 24 #[.val (.ref r0), .val (.int 0), .unset] [(.ref bn14), (.ref r0)])) rfl rfl (hb hby own_d6_24)
  have Fwn18 : Fld Z hn18 r0 "com/example/placewright/placewright/solver/BasisFactorization$Lists" "length" "[I" (.ref bn14) := F17.same Wn18
  have sz19 : h0.size ≤ hn18.size := Nat.le_trans sz15 (Nat.le_of_eq Wn18.size.symm)
  have Nn18 := Fr.snoc Xn18 Nn12 g_r0
  obtain ⟨fs, hr, hrun, hended, hW, hsame⟩ := Xn18.leave (v := none) (fun _ => rfl)
  refine ⟨_, _, pre0 _ (?_), hrun, hended, _, _, rfl, ?_, ⟨_, rfl⟩, hW, hsame.mono (by decide) (by decide)⟩
  · show Steps p.tables e below (s₁.setTop (mkF m 0 #[.val (.ref r0), .val (.int 0), .unset] [])) _
    refine XS.aloadN X0.here hx rfl (hb hby own_d6_0) rfl rfl ?_
    refine stn1 _ ?_
    refine XS.aloadN Xn1.here hx rfl (hb hby own_d6_4) rfl rfl ?_
    refine XS.iloadN Xn1.here hx rfl (hb hby own_d6_5) rfl ?_
    refine stn2 _ ?_
    show Steps p.tables e below (Tn2.setTop (mkF m 9 #[.val (.ref r0), .val (.int 0), .unset] [(.ref bn2), (.ref r0)])) _
    refine stn6 _ ?_
    refine XS.aloadN Xn6.here hx rfl (hb hby own_d6_12) rfl rfl ?_
    refine XS.iloadN Xn6.here hx rfl (hb hby own_d6_13) rfl ?_
    refine stn8 _ ?_
    show Steps p.tables e below (Tn8.setTop (mkF m 17 #[.val (.ref r0), .val (.int 0), .unset] [(.ref bn8), (.ref r0)])) _
    refine stn12 _ ?_
    refine XS.aloadN Xn12.here hx rfl (hb hby own_d6_20) rfl rfl ?_
    refine XS.iloadN Xn12.here hx rfl (hb hby own_d6_21) rfl ?_
    refine stn14 _ ?_
    show Steps p.tables e below (Tn14.setTop (mkF m 24 #[.val (.ref r0), .val (.int 0), .unset] [(.ref bn14), (.ref r0)])) _
    refine stn18 _ ?_
    refine XS.iconst Xn18.here hx rfl (hb hby own_d6_27) ?_
    refine XS.istoreN Xn18.here hx rfl (hb hby own_d6_28) rfl (l' := #[.val (.ref r0), .val (.int 0), .val (.int 0)]) rfl ?_
    refine XS.iloadN Xn18.here hx rfl (hb hby own_d6_29) rfl ?_
    refine XS.iloadN Xn18.here hx rfl (hb hby own_d6_30) rfl ?_
    refine XS.icmpYes Xn18.here hx rfl (pc0 := 31) (pc' := 58) rfl (hb hby own_d6_31) rfl (XT.ii_ge_t (by decide : ¬ ((0 : Int32) < (0 : Int32)))) (by decide) (by decide) ?_
    show Steps p.tables e below (Tn18.setTop (mkF m 58 #[.val (.ref r0), .val (.int 0), .val (.int 0)] [])) _
    exact Xn18.returnOut hx Bd.returns (hb hby own_d6_58) hr
  · show own_Q6 Z r0 w_index_r0 w_value_r0 w_length_r0 h0 n0 _ Tn18.heap _
    rw [en18]
    exact ⟨rfl, Nn18, (((((((Keep.refl h0 [r0]).ext En2).wr Wn6 (Or.inl (List.mem_of_getElem? (i := 0) rfl))).ext En8).wr Wn12 (Or.inl (List.mem_of_getElem? (i := 0) rfl))).ext En14).wr Wn18 (Or.inl (List.mem_of_getElem? (i := 0) rfl))), (F16.wr Wn18)⟩
theorem own_pn2 : plainName "com/example/placewright/placewright/solver/BasisFactorization" = true := by first | (simp [plainName, overriddenIn]; done) | decide +kernel
theorem own_pd0 : parseMethodDescriptor "()V" = some ⟨[], none⟩ := by decide +kernel
theorem own_pd1 : parseMethodDescriptor "(I)V" = some ⟨[.int], none⟩ := by decide +kernel
theorem own_d4_0 : decode prog_13_method_1_code 0 = .ok (.aload_n 0, 1) := by decide +kernel
theorem own_d4_1 : decode prog_13_method_1_code 1 = .ok (.invokespecial 1, 3) := by decide +kernel
theorem own_d4_4 : decode prog_13_method_1_code 4 = .ok (.aload_n 0, 1) := by decide +kernel
theorem own_d4_5 : decode prog_13_method_1_code 5 = .ok (.iconst 0, 1) := by decide +kernel
theorem own_d4_6 : decode prog_13_method_1_code 6 = .ok (.newarray .int, 2) := by decide +kernel
theorem own_d4_8 : decode prog_13_method_1_code 8 = .ok (.putfield 7, 3) := by decide +kernel
theorem own_d4_11 : decode prog_13_method_1_code 11 = .ok (.aload_n 0, 1) := by decide +kernel
theorem own_d4_12 : decode prog_13_method_1_code 12 = .ok (.iconst 0, 1) := by decide +kernel
theorem own_d4_13 : decode prog_13_method_1_code 13 = .ok (.newarray .int, 2) := by decide +kernel
theorem own_d4_15 : decode prog_13_method_1_code 15 = .ok (.putfield 13, 3) := by decide +kernel
theorem own_d4_18 : decode prog_13_method_1_code 18 = .ok (.aload_n 0, 1) := by decide +kernel
theorem own_d4_19 : decode prog_13_method_1_code 19 = .ok (.iconst 0, 1) := by decide +kernel
theorem own_d4_20 : decode prog_13_method_1_code 20 = .ok (.newarray .double, 2) := by decide +kernel
theorem own_d4_22 : decode prog_13_method_1_code 22 = .ok (.putfield 16, 3) := by decide +kernel
theorem own_d4_25 : decode prog_13_method_1_code 25 = .ok (.aload_n 0, 1) := by decide +kernel
theorem own_d4_26 : decode prog_13_method_1_code 26 = .ok (.iconst 0, 1) := by decide +kernel
theorem own_d4_27 : decode prog_13_method_1_code 27 = .ok (.newarray .int, 2) := by decide +kernel
theorem own_d4_29 : decode prog_13_method_1_code 29 = .ok (.putfield 20, 3) := by decide +kernel
theorem own_d4_32 : decode prog_13_method_1_code 32 = .ok (.aload_n 0, 1) := by decide +kernel
theorem own_d4_33 : decode prog_13_method_1_code 33 = .ok (.new 23, 3) := by decide +kernel
theorem own_d4_36 : decode prog_13_method_1_code 36 = .ok (.dup, 1) := by decide +kernel
theorem own_d4_37 : decode prog_13_method_1_code 37 = .ok (.invokespecial 25, 3) := by decide +kernel
theorem own_d4_40 : decode prog_13_method_1_code 40 = .ok (.putfield 26, 3) := by decide +kernel
theorem own_d4_43 : decode prog_13_method_1_code 43 = .ok (.aload_n 0, 1) := by decide +kernel
theorem own_d4_44 : decode prog_13_method_1_code 44 = .ok (.iconst 0, 1) := by decide +kernel
theorem own_d4_45 : decode prog_13_method_1_code 45 = .ok (.newarray .int, 2) := by decide +kernel
theorem own_d4_47 : decode prog_13_method_1_code 47 = .ok (.putfield 30, 3) := by decide +kernel
theorem own_d4_50 : decode prog_13_method_1_code 50 = .ok (.aload_n 0, 1) := by decide +kernel
theorem own_d4_51 : decode prog_13_method_1_code 51 = .ok (.new 33, 3) := by decide +kernel
theorem own_d4_54 : decode prog_13_method_1_code 54 = .ok (.dup, 1) := by decide +kernel
theorem own_d4_55 : decode prog_13_method_1_code 55 = .ok (.iconst 0, 1) := by decide +kernel
theorem own_d4_56 : decode prog_13_method_1_code 56 = .ok (.invokespecial 35, 3) := by decide +kernel
theorem own_d4_59 : decode prog_13_method_1_code 59 = .ok (.putfield 38, 3) := by decide +kernel
theorem own_d4_62 : decode prog_13_method_1_code 62 = .ok (.aload_n 0, 1) := by decide +kernel
theorem own_d4_63 : decode prog_13_method_1_code 63 = .ok (.new 33, 3) := by decide +kernel
theorem own_d4_66 : decode prog_13_method_1_code 66 = .ok (.dup, 1) := by decide +kernel
theorem own_d4_67 : decode prog_13_method_1_code 67 = .ok (.iconst 0, 1) := by decide +kernel
theorem own_d4_68 : decode prog_13_method_1_code 68 = .ok (.invokespecial 35, 3) := by decide +kernel
theorem own_d4_71 : decode prog_13_method_1_code 71 = .ok (.putfield 42, 3) := by decide +kernel
theorem own_d4_74 : decode prog_13_method_1_code 74 = .ok (.aload_n 0, 1) := by decide +kernel
theorem own_d4_75 : decode prog_13_method_1_code 75 = .ok (.new 23, 3) := by decide +kernel
theorem own_d4_78 : decode prog_13_method_1_code 78 = .ok (.dup, 1) := by decide +kernel
theorem own_d4_79 : decode prog_13_method_1_code 79 = .ok (.invokespecial 25, 3) := by decide +kernel
theorem own_d4_82 : decode prog_13_method_1_code 82 = .ok (.putfield 45, 3) := by decide +kernel
theorem own_d4_85 : decode prog_13_method_1_code 85 = .ok (.aload_n 0, 1) := by decide +kernel
theorem own_d4_86 : decode prog_13_method_1_code 86 = .ok (.iconst 0, 1) := by decide +kernel
theorem own_d4_87 : decode prog_13_method_1_code 87 = .ok (.newarray .int, 2) := by decide +kernel
theorem own_d4_89 : decode prog_13_method_1_code 89 = .ok (.putfield 48, 3) := by decide +kernel
theorem own_d4_92 : decode prog_13_method_1_code 92 = .ok (.aload_n 0, 1) := by decide +kernel
theorem own_d4_93 : decode prog_13_method_1_code 93 = .ok (.iconst 0, 1) := by decide +kernel
theorem own_d4_94 : decode prog_13_method_1_code 94 = .ok (.newarray .double, 2) := by decide +kernel
theorem own_d4_96 : decode prog_13_method_1_code 96 = .ok (.putfield 51, 3) := by decide +kernel
theorem own_d4_99 : decode prog_13_method_1_code 99 = .ok (.aload_n 0, 1) := by decide +kernel
theorem own_d4_100 : decode prog_13_method_1_code 100 = .ok (.iconst 0, 1) := by decide +kernel
theorem own_d4_101 : decode prog_13_method_1_code 101 = .ok (.newarray .double, 2) := by decide +kernel
theorem own_d4_103 : decode prog_13_method_1_code 103 = .ok (.putfield 54, 3) := by decide +kernel
theorem own_d4_106 : decode prog_13_method_1_code 106 = .ok (.return_, 1) := by decide +kernel
theorem own_ef4 (m : MethodId) (r0 : Addr) : entryFrame m #[(.ref r0)] 1 = mkF m 0 #[.val (.ref r0)] [] := by first | (simp [entryFrame, mkF, argsToLocals, Value.category]; done) | rfl
def own_Q4 (Z : State) (r0 : Addr) (w_stepRow_r0 : Value) (w_stepPosition_r0 : Value) (w_diagonal_r0 : Value) (w_stepOfPosition_r0 : Value) (w_lower_r0 : Value) (w_lowerRow_r0 : Value) (w_upperByRow_r0 : Value) (w_upperByPosition_r0 : Value) (w_rowEtas_r0 : Value) (w_rowEtaRow_r0 : Value) (w_byRow_r0 : Value) (w_byPosition_r0 : Value) (h0 : Heap) (n0 : Nat) (v : Option Value) (h : Heap) (L : List Loc) : Prop := v = none ∧ Fr n0 L ∧ Keep h0 h [r0] ∧ Exa Z h r0 "com/example/placewright/placewright/solver/BasisFactorization"
set_option maxRecDepth 65536 in
set_option maxHeartbeats 40000000 in
theorem own_rm4 (l : Launch) (Z : State) (a0 : Array Value) (hw : ∀ d ∈ tables_1, d.before a0 Z = true) (ws : List Jvm.Cond) (r0 : Addr) (w_stepRow_r0 : Value) (w_stepPosition_r0 : Value) (w_diagonal_r0 : Value) (w_stepOfPosition_r0 : Value) (w_lower_r0 : Value) (w_lowerRow_r0 : Value) (w_upperByRow_r0 : Value) (w_upperByPosition_r0 : Value) (w_rowEtas_r0 : Value) (w_rowEtaRow_r0 : Value) (w_byRow_r0 : Value) (w_byPosition_r0 : Value) (h0 : Heap) (n0 : Nat) (Z0 : n0 ≤ h0.size) (E_r0 : Exa Z h0 r0 "com/example/placewright/placewright/solver/BasisFactorization") (F_stepRow_r0 : Fld Z h0 r0 "com/example/placewright/placewright/solver/BasisFactorization" "stepRow" "[I" w_stepRow_r0) (g_r0 : n0 ≤ r0) (F_stepPosition_r0 : Fld Z h0 r0 "com/example/placewright/placewright/solver/BasisFactorization" "stepPosition" "[I" w_stepPosition_r0) (F_diagonal_r0 : Fld Z h0 r0 "com/example/placewright/placewright/solver/BasisFactorization" "diagonal" "[D" w_diagonal_r0) (F_stepOfPosition_r0 : Fld Z h0 r0 "com/example/placewright/placewright/solver/BasisFactorization" "stepOfPosition" "[I" w_stepOfPosition_r0) (F_lower_r0 : Fld Z h0 r0 "com/example/placewright/placewright/solver/BasisFactorization" "lower" "Lcom/example/placewright/placewright/solver/BasisFactorization$Entries;" w_lower_r0) (F_lowerRow_r0 : Fld Z h0 r0 "com/example/placewright/placewright/solver/BasisFactorization" "lowerRow" "[I" w_lowerRow_r0) (F_upperByRow_r0 : Fld Z h0 r0 "com/example/placewright/placewright/solver/BasisFactorization" "upperByRow" "Lcom/example/placewright/placewright/solver/BasisFactorization$Lists;" w_upperByRow_r0) (F_upperByPosition_r0 : Fld Z h0 r0 "com/example/placewright/placewright/solver/BasisFactorization" "upperByPosition" "Lcom/example/placewright/placewright/solver/BasisFactorization$Lists;" w_upperByPosition_r0) (F_rowEtas_r0 : Fld Z h0 r0 "com/example/placewright/placewright/solver/BasisFactorization" "rowEtas" "Lcom/example/placewright/placewright/solver/BasisFactorization$Entries;" w_rowEtas_r0) (F_rowEtaRow_r0 : Fld Z h0 r0 "com/example/placewright/placewright/solver/BasisFactorization" "rowEtaRow" "[I" w_rowEtaRow_r0) (F_byRow_r0 : Fld Z h0 r0 "com/example/placewright/placewright/solver/BasisFactorization" "byRow" "[D" w_byRow_r0) (F_byPosition_r0 : Fld Z h0 r0 "com/example/placewright/placewright/solver/BasisFactorization" "byPosition" "[D" w_byPosition_r0) :
    MetFree l (⟨"com/example/placewright/placewright/solver/BasisFactorization", "<init>", "()V"⟩ : MethodName) (head1 (Jvm.Cond.code (⟨"com/example/placewright/placewright/solver/BasisFactorization", "<init>", "()V"⟩ : MethodName) prog_13_method_1_code 1 none :: ws) ({ frames := 2, cells := 24, slots := 84, locals := 28 } : Room)) (fun a U => a = #[(.ref r0)] ∧ Z.Warmed39 U.vm ∧ U.heap = h0) (fun _ _ _ _ _ => True) (fun _ U o U' => ∃ v L, o = .returned v ∧ own_Q4 Z r0 w_stepRow_r0 w_stepPosition_r0 w_diagonal_r0 w_stepOfPosition_r0 w_lower_r0 w_lowerRow_r0 w_upperByRow_r0 w_upperByPosition_r0 w_rowEtas_r0 w_rowEtaRow_r0 w_byRow_r0 w_byPosition_r0 h0 n0 v U'.heap L ∧ FrameEnd U o U' L ({ frames := 2, cells := 24, slots := 84, locals := 28 } : Room).cells ({ frames := 2, cells := 24, slots := 84, locals := 28 } : Room).slots) := by
  refine MetFree.of_bodySF (plainFor_of_name own_pn2) hisR ?_
  intro p e s m args below meth c s₁ Bd hml0 hP hK
  obtain ⟨rfl, hZ, hh⟩ := hP
  have hx := Bd.exec
  have hby := Bd.bytes
  have hml : c.maxLocals = 1 := hml0
  have hown : s.vm.findClass "com/example/placewright/placewright/solver/BasisFactorization" = some m.cls := findClass_of_methodNamed Bd.named
  have hnm := (name_of_methodNamed Bd.named Bd.method).1
  have X0 : Stand p l e ({ frames := 2, cells := 24, slots := 84, locals := 28 } : Room) s m #[(.ref r0)] below meth c s₁ [] 0 0 := Stand.of_body Bd
  have e0 : s₁.heap = h0 := by rw [← hh, Bd.state]; rfl
  have N0 := Fr.nil n0
  have Zr : h0.size ≤ h0.size := Nat.le_refl _
  have pre0 : ∀ t, Steps p.tables e below (s₁.setTop (mkF m 0 #[.val (.ref r0)] [])) t → Steps p.tables e below (s₁.setTop (entryFrame m #[(.ref r0)] 1)) t := fun t k => castTop (own_ef4 m r0) k
  obtain ⟨Tn1, Xn1, en1, stn1⟩ := initO X0 hx hZ hown (own_W hw 59 rfl) (own_W hw 12 rfl) (own_W hw 13 rfl) e0 (g := (mkF m 1 #[.val (.ref r0)] [(.ref r0)])) rfl (by rw [hml]; rfl) rfl (hb hby own_d4_1) (by decide) (W := 0) (by show 2 * 0 + _ ≤ _; exact Nat.le_of_eq rfl) (by decide)
  obtain ⟨Tn2, hn2, kn2, Xn2, en2, En2, An2, Exn2, stn2⟩ := newPE Xn1 hx hZ (own_W hw 25 rfl) en1 (g := (mkF m 6 #[.val (.ref r0)] [(.int 0), (.ref r0)])) rfl (hb hby own_d4_6) rfl (by decide) (cap := 0) (by decide) (by decide) (by decide) (by decide) (ad := "[I") (by decide)
  obtain ⟨bn2, gn2⟩ : ∃ z, z = h0.size := ⟨_, rfl⟩
  rw [← gn2] at An2 Exn2 stn2
  have g_bn2 : n0 ≤ bn2 := Nat.le_trans Z0 (Nat.le_of_eq gn2.symm)
  have sz_bn2 : h0.size ≤ bn2 := Nat.le_trans Zr (Nat.le_of_eq gn2.symm)
  have sz3 : h0.size ≤ hn2.size := Nat.le_trans Zr En2.1
  have V_bn2 : Arv Z hn2 bn2 kn2 .int (0 : Int32) (own_G (0 : Int32) (own_all (.int 0))) (.int 0) := own_newG An2 (by decide)
  have F4 := (E_r0.ext En2)
  have F5 := (F_stepRow_r0.ext En2)
  obtain ⟨Tn6, hn6, Xn6, en6, Wn6, stn6⟩ := putF Xn2 hx hZ hown (host := "") (Or.inl (own_W hw 60 rfl)) Via.refl en2 F5 F4 (Or.inl (own_W hw 61 rfl)) (own_W hw 54 rfl) (ty := (.array .int)) (by decide) rfl rfl (g := (mkF m 8 #[.val (.ref r0)] [(.ref bn2), (.ref r0)])) rfl rfl (hb hby own_d4_8)
  have Fwn6 : Fld Z hn6 r0 "com/example/placewright/placewright/solver/BasisFactorization" "stepRow" "[I" (.ref bn2) := F5.same Wn6
  have sz7 : h0.size ≤ hn6.size := Nat.le_trans sz3 (Nat.le_of_eq Wn6.size.symm)
  have Nn6 := Fr.snoc Xn6 N0 g_r0
  obtain ⟨Tn8, hn8, kn8, Xn8, en8, En8, An8, Exn8, stn8⟩ := newPE Xn6 hx hZ (own_W hw 25 rfl) en6 (g := (mkF m 13 #[.val (.ref r0)] [(.int 0), (.ref r0)])) rfl (hb hby own_d4_13) rfl (by decide) (cap := 0) (by decide) (by decide) (by decide) (by decide) (ad := "[I") (by decide)
  obtain ⟨bn8, gn8⟩ : ∃ z, z = hn6.size := ⟨_, rfl⟩
  rw [← gn8] at An8 Exn8 stn8
  have g_bn8 : n0 ≤ bn8 := Nat.le_trans (Nat.le_trans Z0 sz7) (Nat.le_of_eq gn8.symm)
  have sz_bn8 : h0.size ≤ bn8 := Nat.le_trans sz7 (Nat.le_of_eq gn8.symm)
  have sz9 : h0.size ≤ hn8.size := Nat.le_trans sz7 En8.1
  have V_bn8 : Arv Z hn8 bn8 kn8 .int (0 : Int32) (own_G (0 : Int32) (own_all (.int 0))) (.int 0) := own_newG An8 (by decide)
  have F10 := ((F4.wr Wn6).ext En8)
  have F11 := (((F_stepPosition_r0.ext En2).other Wn6 (Or.inr (slot_ne (Or.inl (own_W hw 63 rfl)) (Or.inl (own_W hw 61 rfl)) (by decide) (t := (.array .int)) (t' := (.array .int)) (by decide) (by decide)))).ext En8)
  obtain ⟨Tn12, hn12, Xn12, en12, Wn12, stn12⟩ := putF Xn8 hx hZ hown (host := "") (Or.inl (own_W hw 62 rfl)) Via.refl en8 F11 F10 (Or.inl (own_W hw 63 rfl)) (own_W hw 54 rfl) (ty := (.array .int)) (by decide) rfl rfl (g := (mkF m 15 #[.val (.ref r0)] [(.ref bn8), (.ref r0)])) rfl rfl (hb hby own_d4_15)
  have Fwn12 : Fld Z hn12 r0 "com/example/placewright/placewright/solver/BasisFactorization" "stepPosition" "[I" (.ref bn8) := F11.same Wn12
  have sz13 : h0.size ≤ hn12.size := Nat.le_trans sz9 (Nat.le_of_eq Wn12.size.symm)
  have Nn12 := Fr.snoc Xn12 Nn6 g_r0
  obtain ⟨Tn14, hn14, kn14, Xn14, en14, En14, An14, Exn14, stn14⟩ := newPE Xn12 hx hZ (own_W hw 22 rfl) en12 (g := (mkF m 20 #[.val (.ref r0)] [(.int 0), (.ref r0)])) rfl (hb hby own_d4_20) rfl (by decide) (cap := 0) (by decide) (by decide) (by decide) (by decide) (ad := "[D") (by decide)
  obtain ⟨bn14, gn14⟩ : ∃ z, z = hn12.size := ⟨_, rfl⟩
  rw [← gn14] at An14 Exn14 stn14
  have g_bn14 : n0 ≤ bn14 := Nat.le_trans (Nat.le_trans Z0 sz13) (Nat.le_of_eq gn14.symm)
  have sz_bn14 : h0.size ≤ bn14 := Nat.le_trans sz13 (Nat.le_of_eq gn14.symm)
  have sz15 : h0.size ≤ hn14.size := Nat.le_trans sz13 En14.1
  have V_bn14 : Arv Z hn14 bn14 kn14 .double (0 : Int32) (own_G (0 : Int32) (own_all (.double 0))) (.double 0) := own_newG An14 (by decide)
  have F16 := ((F10.wr Wn12).ext En14)
  have F17 := (((((F_diagonal_r0.ext En2).other Wn6 (Or.inr (slot_ne (Or.inl (own_W hw 65 rfl)) (Or.inl (own_W hw 61 rfl)) (by decide) (t := (.array .double)) (t' := (.array .int)) (by decide) (by decide)))).ext En8).other Wn12 (Or.inr (slot_ne (Or.inl (own_W hw 65 rfl)) (Or.inl (own_W hw 63 rfl)) (by decide) (t := (.array .double)) (t' := (.array .int)) (by decide) (by decide)))).ext En14)
  obtain ⟨Tn18, hn18, Xn18, en18, Wn18, stn18⟩ := putF Xn14 hx hZ hown (host := "") (Or.inl (own_W hw 64 rfl)) Via.refl en14 F17 F16 (Or.inl (own_W hw 65 rfl)) (own_W hw 54 rfl) (ty := (.array .double)) (by decide) rfl rfl (g := (mkF m 22 #[.val (.ref r0)] [(.ref bn14), (.ref r0)])) rfl rfl (hb hby own_d4_22)
  have Fwn18 : Fld Z hn18 r0 "com/example/placewright/placewright/solver/BasisFactorization" "diagonal" "[D" (.ref bn14) := F17.same Wn18
  have sz19 : h0.size ≤ hn18.size := Nat.le_trans sz15 (Nat.le_of_eq Wn18.size.symm)
  have Nn18 := Fr.snoc Xn18 Nn12 g_r0
  obtain ⟨Tn20, hn20, kn20, Xn20, en20, En20, An20, Exn20, stn20⟩ := newPE Xn18 hx hZ (own_W hw 25 rfl) en18 (g := (mkF m 27 #[.val (.ref r0)] [(.int 0), (.ref r0)])) rfl (hb hby own_d4_27) rfl (by decide) (cap := 0) (by decide) (by decide) (by decide) (by decide) (ad := "[I") (by decide)
  obtain ⟨bn20, gn20⟩ : ∃ z, z = hn18.size := ⟨_, rfl⟩
  rw [← gn20] at An20 Exn20 stn20
  have g_bn20 : n0 ≤ bn20 := Nat.le_trans (Nat.le_trans Z0 sz19) (Nat.le_of_eq gn20.symm)
  have sz_bn20 : h0.size ≤ bn20 := Nat.le_trans sz19 (Nat.le_of_eq gn20.symm)
  have sz21 : h0.size ≤ hn20.size := Nat.le_trans sz19 En20.1
  have V_bn20 : Arv Z hn20 bn20 kn20 .int (0 : Int32) (own_G (0 : Int32) (own_all (.int 0))) (.int 0) := own_newG An20 (by decide)
  have F22 := ((F16.wr Wn18).ext En20)
  have F23 := (((((((F_stepOfPosition_r0.ext En2).other Wn6 (Or.inr (slot_ne (Or.inl (own_W hw 67 rfl)) (Or.inl (own_W hw 61 rfl)) (by decide) (t := (.array .int)) (t' := (.array .int)) (by decide) (by decide)))).ext En8).other Wn12 (Or.inr (slot_ne (Or.inl (own_W hw 67 rfl)) (Or.inl (own_W hw 63 rfl)) (by decide) (t := (.array .int)) (t' := (.array .int)) (by decide) (by decide)))).ext En14).other Wn18 (Or.inr (slot_ne (Or.inl (own_W hw 67 rfl)) (Or.inl (own_W hw 65 rfl)) (by decide) (t := (.array .int)) (t' := (.array .double)) (by decide) (by decide)))).ext En20)
  obtain ⟨Tn24, hn24, Xn24, en24, Wn24, stn24⟩ := putF Xn20 hx hZ hown (host := "") (Or.inl (own_W hw 66 rfl)) Via.refl en20 F23 F22 (Or.inl (own_W hw 67 rfl)) (own_W hw 54 rfl) (ty := (.array .int)) (by decide) rfl rfl (g := (mkF m 29 #[.val (.ref r0)] [(.ref bn20), (.ref r0)])) rfl rfl (hb hby own_d4_29)
  have Fwn24 : Fld Z hn24 r0 "com/example/placewright/placewright/solver/BasisFactorization" "stepOfPosition" "[I" (.ref bn20) := F23.same Wn24
  have sz25 : h0.size ≤ hn24.size := Nat.le_trans sz21 (Nat.le_of_eq Wn24.size.symm)
  have Nn24 := Fr.snoc Xn24 Nn18 g_r0
  obtain ⟨Tn26, hn26, Xn26, en26, En26, An26, Dn26, -, stn26⟩ := newO Xn24 hx hZ hown (own_W hw 68 rfl) (own_W hw 69 rfl) (own_W hw 70 rfl) en24 (g := (mkF m 33 #[.val (.ref r0)] [(.ref r0)])) rfl (hb hby own_d4_33) (by decide) (by decide)
  obtain ⟨bn26, gn26⟩ : ∃ z, z = hn24.size := ⟨_, rfl⟩
  rw [← gn26] at An26 Dn26 stn26
  have g_bn26 : n0 ≤ bn26 := Nat.le_trans (Nat.le_trans Z0 sz25) (Nat.le_of_eq gn26.symm)
  have sz_bn26 : h0.size ≤ bn26 := Nat.le_trans sz25 (Nat.le_of_eq gn26.symm)
  have sz27 : h0.size ≤ hn26.size := Nat.le_trans sz25 En26.1
  have F_start_bn26 : Fld Z hn26 bn26 "com/example/placewright/placewright/solver/BasisFactorization$Entries" "start" "[I" .null := Dn26 (Or.inl (own_W hw 76 rfl)) (ty := (.array .int)) (by decide)
  have F_index_bn26 : Fld Z hn26 bn26 "com/example/placewright/placewright/solver/BasisFactorization$Entries" "index" "[I" .null := Dn26 (Or.inl (own_W hw 78 rfl)) (ty := (.array .int)) (by decide)
  have F_value_bn26 : Fld Z hn26 bn26 "com/example/placewright/placewright/solver/BasisFactorization$Entries" "value" "[D" .null := Dn26 (Or.inl (own_W hw 80 rfl)) (ty := (.array .double)) (by decide)
  obtain ⟨_, _, ⟨Tk28, Lk28, kk28, nk28⟩, -, Xk28, ⟨Lck28, hQk28, lk28, yk28, zk28⟩, stk28⟩ := own_specialRef Xn26 hx (y := (⟨"com/example/placewright/placewright/solver/BasisFactorization$Entries", "<init>", "()V"⟩ : MethodName)) rfl hown (own_mvR hZ (own_W hw 72 rfl) (by decide) (own_W hw 71 rfl)) (mvT hZ (own_W hw 72 rfl)) (mvT hZ (own_W hw 73 rfl)) (by decide) (backOf (W := 2) (own_rm5 l Z a0 hw [] bn26 .null .null .null hn26 n0 (Nat.le_trans Z0 sz27) An26 F_start_bn26 g_bn26 F_index_bn26 F_value_bn26) hZ (own_W hw 73 rfl) (own_W hw 70 rfl) (by decide) (by decide)) (g := (mkF m 37 #[.val (.ref r0)] [(.ref bn26), (.ref bn26), (.ref r0)])) rfl (by rw [hml]; rfl) (Steps.refl _) (a := bn26) (argsL := []) (rest := [(.ref bn26), (.ref r0)]) (lenOf own_pd0 rfl) rfl (by show 2 * 0 + _ ≤ _; exact Nat.le_of_eq rfl) (hb hby own_d4_37) (fun _ _ => ⟨rfl, en26, (by decide : 5 + 3 ≤ _), (by decide : 5 + 33 ≤ _)⟩)
  dsimp only [Pt.U, Pt.locs, Pt.cells, Pt.slots] at Xk28 lk28 yk28 zk28 stk28 hQk28
  replace lk28 := lk28.symm; replace yk28 := yk28.symm; replace zk28 := zk28.symm; subst lk28 yk28 zk28
  obtain ⟨rfl, Nk28q, Kk28, Qk28_0⟩ := hQk28
  have sz29 : h0.size ≤ Tk28.heap.size := Nat.le_trans sz27 Kk28.1
  have Nk28 := Fr.app Nn24 Nk28q
  have F30 := (((F22.wr Wn24).ext En26).keep Kk28)
  have ne31 : bn26 ≠ r0 := (Ne.symm (Nat.ne_of_lt (Nat.lt_of_lt_of_le ((((((((F_lower_r0.ext En2).other Wn6 (Or.inr (slot_ne (Or.inr (own_W hw 82 rfl)) (Or.inl (own_W hw 61 rfl)) (by decide) (t := (.object "com/example/placewright/placewright/solver/BasisFactorization$Entries")) (t' := (.array .int)) (by decide) (by decide)))).ext En8).other Wn12 (Or.inr (slot_ne (Or.inr (own_W hw 82 rfl)) (Or.inl (own_W hw 63 rfl)) (by decide) (t := (.object "com/example/placewright/placewright/solver/BasisFactorization$Entries")) (t' := (.array .int)) (by decide) (by decide)))).ext En14).other Wn18 (Or.inr (slot_ne (Or.inr (own_W hw 82 rfl)) (Or.inl (own_W hw 65 rfl)) (by decide) (t := (.object "com/example/placewright/placewright/solver/BasisFactorization$Entries")) (t' := (.array .double)) (by decide) (by decide)))).ext En20).other Wn24 (Or.inr (slot_ne (Or.inr (own_W hw 82 rfl)) (Or.inl (own_W hw 67 rfl)) (by decide) (t := (.object "com/example/placewright/placewright/solver/BasisFactorization$Entries")) (t' := (.array .int)) (by decide) (by decide)))).lt (Nat.le_of_eq gn26.symm))))
  have F32 := ((((((((((F_lower_r0.ext En2).other Wn6 (Or.inr (slot_ne (Or.inr (own_W hw 82 rfl)) (Or.inl (own_W hw 61 rfl)) (by decide) (t := (.object "com/example/placewright/placewright/solver/BasisFactorization$Entries")) (t' := (.array .int)) (by decide) (by decide)))).ext En8).other Wn12 (Or.inr (slot_ne (Or.inr (own_W hw 82 rfl)) (Or.inl (own_W hw 63 rfl)) (by decide) (t := (.object "com/example/placewright/placewright/solver/BasisFactorization$Entries")) (t' := (.array .int)) (by decide) (by decide)))).ext En14).other Wn18 (Or.inr (slot_ne (Or.inr (own_W hw 82 rfl)) (Or.inl (own_W hw 65 rfl)) (by decide) (t := (.object "com/example/placewright/placewright/solver/BasisFactorization$Entries")) (t' := (.array .double)) (by decide) (by decide)))).ext En20).other Wn24 (Or.inr (slot_ne (Or.inr (own_W hw 82 rfl)) (Or.inl (own_W hw 67 rfl)) (by decide) (t := (.object "com/example/placewright/placewright/solver/BasisFactorization$Entries")) (t' := (.array .int)) (by decide) (by decide)))).ext En26).keep Kk28 (ninS (Ne.symm ne31) nin0))
  obtain ⟨Tn33, hn33, Xn33, en33, Wn33, stn33⟩ := putF Xk28 hx hZ hown (host := "") (Or.inl (own_W hw 81 rfl)) Via.refl rfl F32 F30 (Or.inr ⟨(own_W hw 82 rfl), rfl, hnm⟩) (own_W hw 54 rfl) (ty := (.object "com/example/placewright/placewright/solver/BasisFactorization$Entries")) (by decide) rfl rfl (g := (mkF m 40 #[.val (.ref r0)] [(.ref bn26), (.ref r0)])) rfl rfl (hb hby own_d4_40)
  have Fwn33 : Fld Z hn33 r0 "com/example/placewright/placewright/solver/BasisFactorization" "lower" "Lcom/example/placewright/placewright/solver/BasisFactorization$Entries;" (.ref bn26) := F32.same Wn33
  have sz34 : h0.size ≤ hn33.size := Nat.le_trans sz29 (Nat.le_of_eq Wn33.size.symm)
  have Nn33 := Fr.snoc Xn33 Nk28 g_r0
  obtain ⟨Tn35, hn35, kn35, Xn35, en35, En35, An35, Exn35, stn35⟩ := newPE Xn33 hx hZ (own_W hw 25 rfl) en33 (g := (mkF m 45 #[.val (.ref r0)] [(.int 0), (.ref r0)])) rfl (hb hby own_d4_45) rfl (by decide) (cap := 0) (by decide) (by decide) (by decide) (by decide) (ad := "[I") (by decide)
  obtain ⟨bn35, gn35⟩ : ∃ z, z = hn33.size := ⟨_, rfl⟩
  rw [← gn35] at An35 Exn35 stn35
  have g_bn35 : n0 ≤ bn35 := Nat.le_trans (Nat.le_trans Z0 sz34) (Nat.le_of_eq gn35.symm)
  have sz_bn35 : h0.size ≤ bn35 := Nat.le_trans sz34 (Nat.le_of_eq gn35.symm)
  have sz36 : h0.size ≤ hn35.size := Nat.le_trans sz34 En35.1
  have V_bn35 : Arv Z hn35 bn35 kn35 .int (0 : Int32) (own_G (0 : Int32) (own_all (.int 0))) (.int 0) := own_newG An35 (by decide)
  have F37 := ((F30.wr Wn33).ext En35)
  have F38 := ((((((((((((F_lowerRow_r0.ext En2).other Wn6 (Or.inr (slot_ne (Or.inl (own_W hw 84 rfl)) (Or.inl (own_W hw 61 rfl)) (by decide) (t := (.array .int)) (t' := (.array .int)) (by decide) (by decide)))).ext En8).other Wn12 (Or.inr (slot_ne (Or.inl (own_W hw 84 rfl)) (Or.inl (own_W hw 63 rfl)) (by decide) (t := (.array .int)) (t' := (.array .int)) (by decide) (by decide)))).ext En14).other Wn18 (Or.inr (slot_ne (Or.inl (own_W hw 84 rfl)) (Or.inl (own_W hw 65 rfl)) (by decide) (t := (.array .int)) (t' := (.array .double)) (by decide) (by decide)))).ext En20).other Wn24 (Or.inr (slot_ne (Or.inl (own_W hw 84 rfl)) (Or.inl (own_W hw 67 rfl)) (by decide) (t := (.array .int)) (t' := (.array .int)) (by decide) (by decide)))).ext En26).keep Kk28 (ninS (Ne.symm ne31) nin0)).other Wn33 (Or.inr (slot_ne (Or.inl (own_W hw 84 rfl)) (Or.inr (own_W hw 82 rfl)) (by decide) (t := (.array .int)) (t' := (.object "com/example/placewright/placewright/solver/BasisFactorization$Entries")) (by decide) (by decide)))).ext En35)
  obtain ⟨Tn39, hn39, Xn39, en39, Wn39, stn39⟩ := putF Xn35 hx hZ hown (host := "") (Or.inl (own_W hw 83 rfl)) Via.refl en35 F38 F37 (Or.inl (own_W hw 84 rfl)) (own_W hw 54 rfl) (ty := (.array .int)) (by decide) rfl rfl (g := (mkF m 47 #[.val (.ref r0)] [(.ref bn35), (.ref r0)])) rfl rfl (hb hby own_d4_47)
  have Fwn39 : Fld Z hn39 r0 "com/example/placewright/placewright/solver/BasisFactorization" "lowerRow" "[I" (.ref bn35) := F38.same Wn39
  have sz40 : h0.size ≤ hn39.size := Nat.le_trans sz36 (Nat.le_of_eq Wn39.size.symm)
  have Nn39 := Fr.snoc Xn39 Nn33 g_r0
  obtain ⟨Tn41, hn41, Xn41, en41, En41, An41, Dn41, -, stn41⟩ := newO Xn39 hx hZ hown (own_W hw 85 rfl) (own_W hw 86 rfl) (own_W hw 87 rfl) en39 (g := (mkF m 51 #[.val (.ref r0)] [(.ref r0)])) rfl (hb hby own_d4_51) (by decide) (by decide)
  obtain ⟨bn41, gn41⟩ : ∃ z, z = hn39.size := ⟨_, rfl⟩
  rw [← gn41] at An41 Dn41 stn41
  have g_bn41 : n0 ≤ bn41 := Nat.le_trans (Nat.le_trans Z0 sz40) (Nat.le_of_eq gn41.symm)
  have sz_bn41 : h0.size ≤ bn41 := Nat.le_trans sz40 (Nat.le_of_eq gn41.symm)
  have sz42 : h0.size ≤ hn41.size := Nat.le_trans sz40 En41.1
  have F_index_bn41 : Fld Z hn41 bn41 "com/example/placewright/placewright/solver/BasisFactorization$Lists" "index" "[[I" .null := Dn41 (Or.inr (own_W hw 94 rfl)) (ty := (.array (.array .int))) (by decide)
  have F_value_bn41 : Fld Z hn41 bn41 "com/example/placewright/placewright/solver/BasisFactorization$Lists" "value" "[[D" .null := Dn41 (Or.inr (own_W hw 97 rfl)) (ty := (.array (.array .double))) (by decide)
  have F_length_bn41 : Fld Z hn41 bn41 "com/example/placewright/placewright/solver/BasisFactorization$Lists" "length" "[I" .null := Dn41 (Or.inr (own_W hw 99 rfl)) (ty := (.array .int)) (by decide)
  obtain ⟨_, _, ⟨Tk43, Lk43, kk43, nk43⟩, -, Xk43, ⟨Lck43, hQk43, lk43, yk43, zk43⟩, stk43⟩ := Xn41.specialBack hx (y := (⟨"com/example/placewright/placewright/solver/BasisFactorization$Lists", "<init>", "(I)V"⟩ : MethodName)) rfl hown (mvT hZ (own_W hw 88 rfl)) (mvT hZ (own_W hw 89 rfl)) (mvT hZ (own_W hw 90 rfl)) (by decide) (backOf (W := 2) (own_rm6 l Z a0 hw [] bn41 .null .null .null hn41 n0 (Nat.le_trans Z0 sz42) An41 F_index_bn41 g_bn41 F_value_bn41 F_length_bn41) hZ (own_W hw 90 rfl) (own_W hw 87 rfl) (by decide) (by decide)) (g := (mkF m 56 #[.val (.ref r0)] [(.int 0), (.ref bn41), (.ref bn41), (.ref r0)])) rfl (by rw [hml]; rfl) (Steps.refl _) (a := bn41) (argsL := [(.int 0)]) (rest := [(.ref bn41), (.ref r0)]) (lenOf own_pd1 rfl) rfl (by show 2 * 0 + _ ≤ _; exact Nat.le_of_eq rfl) (hb hby own_d4_56) (fun _ _ => ⟨rfl, en41, (by decide : 10 + 3 ≤ _), (by decide : 42 + 0 ≤ _)⟩)
  dsimp only [Pt.U, Pt.locs, Pt.cells, Pt.slots] at Xk43 lk43 yk43 zk43 stk43 hQk43
  replace lk43 := lk43.symm; replace yk43 := yk43.symm; replace zk43 := zk43.symm; subst lk43 yk43 zk43
  obtain ⟨rfl, Nk43q, Kk43, Qk43_0⟩ := hQk43
  have sz44 : h0.size ≤ Tk43.heap.size := Nat.le_trans sz42 Kk43.1
  have Nk43 := Fr.app Nn39 Nk43q
  have F45 := (((F37.wr Wn39).ext En41).keep Kk43)
  have ne46 : bn41 ≠ r0 := (Ne.symm (Nat.ne_of_lt (Nat.lt_of_lt_of_le (((((((((((((F_upperByRow_r0.ext En2).other Wn6 (Or.inr (slot_ne (Or.inl (own_W hw 101 rfl)) (Or.inl (own_W hw 61 rfl)) (by decide) (t := (.object "com/example/placewright/placewright/solver/BasisFactorization$Lists")) (t' := (.array .int)) (by decide) (by decide)))).ext En8).other Wn12 (Or.inr (slot_ne (Or.inl (own_W hw 101 rfl)) (Or.inl (own_W hw 63 rfl)) (by decide) (t := (.object "com/example/placewright/placewright/solver/BasisFactorization$Lists")) (t' := (.array .int)) (by decide) (by decide)))).ext En14).other Wn18 (Or.inr (slot_ne (Or.inl (own_W hw 101 rfl)) (Or.inl (own_W hw 65 rfl)) (by decide) (t := (.object "com/example/placewright/placewright/solver/BasisFactorization$Lists")) (t' := (.array .double)) (by decide) (by decide)))).ext En20).other Wn24 (Or.inr (slot_ne (Or.inl (own_W hw 101 rfl)) (Or.inl (own_W hw 67 rfl)) (by decide) (t := (.object "com/example/placewright/placewright/solver/BasisFactorization$Lists")) (t' := (.array .int)) (by decide) (by decide)))).ext En26).keep Kk28 (ninS (Ne.symm ne31) nin0)).other Wn33 (Or.inr (slot_ne (Or.inl (own_W hw 101 rfl)) (Or.inr (own_W hw 82 rfl)) (by decide) (t := (.object "com/example/placewright/placewright/solver/BasisFactorization$Lists")) (t' := (.object "com/example/placewright/placewright/solver/BasisFactorization$Entries")) (by decide) (by decide)))).ext En35).other Wn39 (Or.inr (slot_ne (Or.inl (own_W hw 101 rfl)) (Or.inl (own_W hw 84 rfl)) (by decide) (t := (.object "com/example/placewright/placewright/solver/BasisFactorization$Lists")) (t' := (.array .int)) (by decide) (by decide)))).lt (Nat.le_of_eq gn41.symm))))
  have F47 := (((((((((((((((F_upperByRow_r0.ext En2).other Wn6 (Or.inr (slot_ne (Or.inl (own_W hw 101 rfl)) (Or.inl (own_W hw 61 rfl)) (by decide) (t := (.object "com/example/placewright/placewright/solver/BasisFactorization$Lists")) (t' := (.array .int)) (by decide) (by decide)))).ext En8).other Wn12 (Or.inr (slot_ne (Or.inl (own_W hw 101 rfl)) (Or.inl (own_W hw 63 rfl)) (by decide) (t := (.object "com/example/placewright/placewright/solver/BasisFactorization$Lists")) (t' := (.array .int)) (by decide) (by decide)))).ext En14).other Wn18 (Or.inr (slot_ne (Or.inl (own_W hw 101 rfl)) (Or.inl (own_W hw 65 rfl)) (by decide) (t := (.object "com/example/placewright/placewright/solver/BasisFactorization$Lists")) (t' := (.array .double)) (by decide) (by decide)))).ext En20).other Wn24 (Or.inr (slot_ne (Or.inl (own_W hw 101 rfl)) (Or.inl (own_W hw 67 rfl)) (by decide) (t := (.object "com/example/placewright/placewright/solver/BasisFactorization$Lists")) (t' := (.array .int)) (by decide) (by decide)))).ext En26).keep Kk28 (ninS (Ne.symm ne31) nin0)).other Wn33 (Or.inr (slot_ne (Or.inl (own_W hw 101 rfl)) (Or.inr (own_W hw 82 rfl)) (by decide) (t := (.object "com/example/placewright/placewright/solver/BasisFactorization$Lists")) (t' := (.object "com/example/placewright/placewright/solver/BasisFactorization$Entries")) (by decide) (by decide)))).ext En35).other Wn39 (Or.inr (slot_ne (Or.inl (own_W hw 101 rfl)) (Or.inl (own_W hw 84 rfl)) (by decide) (t := (.object "com/example/placewright/placewright/solver/BasisFactorization$Lists")) (t' := (.array .int)) (by decide) (by decide)))).ext En41).keep Kk43 (ninS (Ne.symm ne46) nin0))
  obtain ⟨Tn48, hn48, Xn48, en48, Wn48, stn48⟩ := putF Xk43 hx hZ hown (host := "") (Or.inl (own_W hw 100 rfl)) Via.refl rfl F47 F45 (Or.inl (own_W hw 101 rfl)) (own_W hw 54 rfl) (ty := (.object "com/example/placewright/placewright/solver/BasisFactorization$Lists")) (by decide) rfl rfl (g := (mkF m 59 #[.val (.ref r0)] [(.ref bn41), (.ref r0)])) rfl rfl (hb hby own_d4_59)
  have Fwn48 : Fld Z hn48 r0 "com/example/placewright/placewright/solver/BasisFactorization" "upperByRow" "Lcom/example/placewright/placewright/solver/BasisFactorization$Lists;" (.ref bn41) := F47.same Wn48
  have sz49 : h0.size ≤ hn48.size := Nat.le_trans sz44 (Nat.le_of_eq Wn48.size.symm)
  have Nn48 := Fr.snoc Xn48 Nk43 g_r0
  obtain ⟨Tn50, hn50, Xn50, en50, En50, An50, Dn50, -, stn50⟩ := newO Xn48 hx hZ hown (own_W hw 85 rfl) (own_W hw 86 rfl) (own_W hw 87 rfl) en48 (g := (mkF m 63 #[.val (.ref r0)] [(.ref r0)])) rfl (hb hby own_d4_63) (by decide) (by decide)
  obtain ⟨bn50, gn50⟩ : ∃ z, z = hn48.size := ⟨_, rfl⟩
  rw [← gn50] at An50 Dn50 stn50
  have g_bn50 : n0 ≤ bn50 := Nat.le_trans (Nat.le_trans Z0 sz49) (Nat.le_of_eq gn50.symm)
  have sz_bn50 : h0.size ≤ bn50 := Nat.le_trans sz49 (Nat.le_of_eq gn50.symm)
  have sz51 : h0.size ≤ hn50.size := Nat.le_trans sz49 En50.1
  have F_index_bn50 : Fld Z hn50 bn50 "com/example/placewright/placewright/solver/BasisFactorization$Lists" "index" "[[I" .null := Dn50 (Or.inr (own_W hw 94 rfl)) (ty := (.array (.array .int))) (by decide)
  have F_value_bn50 : Fld Z hn50 bn50 "com/example/placewright/placewright/solver/BasisFactorization$Lists" "value" "[[D" .null := Dn50 (Or.inr (own_W hw 97 rfl)) (ty := (.array (.array .double))) (by decide)
  have F_length_bn50 : Fld Z hn50 bn50 "com/example/placewright/placewright/solver/BasisFactorization$Lists" "length" "[I" .null := Dn50 (Or.inr (own_W hw 99 rfl)) (ty := (.array .int)) (by decide)
  obtain ⟨_, _, ⟨Tk52, Lk52, kk52, nk52⟩, -, Xk52, ⟨Lck52, hQk52, lk52, yk52, zk52⟩, stk52⟩ := Xn50.specialBack hx (y := (⟨"com/example/placewright/placewright/solver/BasisFactorization$Lists", "<init>", "(I)V"⟩ : MethodName)) rfl hown (mvT hZ (own_W hw 88 rfl)) (mvT hZ (own_W hw 89 rfl)) (mvT hZ (own_W hw 90 rfl)) (by decide) (backOf (W := 2) (own_rm6 l Z a0 hw [] bn50 .null .null .null hn50 n0 (Nat.le_trans Z0 sz51) An50 F_index_bn50 g_bn50 F_value_bn50 F_length_bn50) hZ (own_W hw 90 rfl) (own_W hw 87 rfl) (by decide) (by decide)) (g := (mkF m 68 #[.val (.ref r0)] [(.int 0), (.ref bn50), (.ref bn50), (.ref r0)])) rfl (by rw [hml]; rfl) (Steps.refl _) (a := bn50) (argsL := [(.int 0)]) (rest := [(.ref bn50), (.ref r0)]) (lenOf own_pd1 rfl) rfl (by show 2 * 0 + _ ≤ _; exact Nat.le_of_eq rfl) (hb hby own_d4_68) (fun _ _ => ⟨rfl, en50, (by decide : 14 + 3 ≤ _), (by decide : 46 + 0 ≤ _)⟩)
  dsimp only [Pt.U, Pt.locs, Pt.cells, Pt.slots] at Xk52 lk52 yk52 zk52 stk52 hQk52
  replace lk52 := lk52.symm; replace yk52 := yk52.symm; replace zk52 := zk52.symm; subst lk52 yk52 zk52
  obtain ⟨rfl, Nk52q, Kk52, Qk52_0⟩ := hQk52
  have sz53 : h0.size ≤ Tk52.heap.size := Nat.le_trans sz51 Kk52.1
  have Nk52 := Fr.app Nn48 Nk52q
  have F54 := (((F45.wr Wn48).ext En50).keep Kk52)
  have ne55 : bn50 ≠ r0 := (Ne.symm (Nat.ne_of_lt (Nat.lt_of_lt_of_le ((((((((((((((((F_upperByPosition_r0.ext En2).other Wn6 (Or.inr (slot_ne (Or.inl (own_W hw 103 rfl)) (Or.inl (own_W hw 61 rfl)) (by decide) (t := (.object "com/example/placewright/placewright/solver/BasisFactorization$Lists")) (t' := (.array .int)) (by decide) (by decide)))).ext En8).other Wn12 (Or.inr (slot_ne (Or.inl (own_W hw 103 rfl)) (Or.inl (own_W hw 63 rfl)) (by decide) (t := (.object "com/example/placewright/placewright/solver/BasisFactorization$Lists")) (t' := (.array .int)) (by decide) (by decide)))).ext En14).other Wn18 (Or.inr (slot_ne (Or.inl (own_W hw 103 rfl)) (Or.inl (own_W hw 65 rfl)) (by decide) (t := (.object "com/example/placewright/placewright/solver/BasisFactorization$Lists")) (t' := (.array .double)) (by decide) (by decide)))).ext En20).other Wn24 (Or.inr (slot_ne (Or.inl (own_W hw 103 rfl)) (Or.inl (own_W hw 67 rfl)) (by decide) (t := (.object "com/example/placewright/placewright/solver/BasisFactorization$Lists")) (t' := (.array .int)) (by decide) (by decide)))).ext En26).keep Kk28 (ninS (Ne.symm ne31) nin0)).other Wn33 (Or.inr (slot_ne (Or.inl (own_W hw 103 rfl)) (Or.inr (own_W hw 82 rfl)) (by decide) (t := (.object "com/example/placewright/placewright/solver/BasisFactorization$Lists")) (t' := (.object "com/example/placewright/placewright/solver/BasisFactorization$Entries")) (by decide) (by decide)))).ext En35).other Wn39 (Or.inr (slot_ne (Or.inl (own_W hw 103 rfl)) (Or.inl (own_W hw 84 rfl)) (by decide) (t := (.object "com/example/placewright/placewright/solver/BasisFactorization$Lists")) (t' := (.array .int)) (by decide) (by decide)))).ext En41).keep Kk43 (ninS (Ne.symm ne46) nin0)).other Wn48 (Or.inr (slot_ne (Or.inl (own_W hw 103 rfl)) (Or.inl (own_W hw 101 rfl)) (by decide) (t := (.object "com/example/placewright/placewright/solver/BasisFactorization$Lists")) (t' := (.object "com/example/placewright/placewright/solver/BasisFactorization$Lists")) (by decide) (by decide)))).lt (Nat.le_of_eq gn50.symm))))
  have F56 := ((((((((((((((((((F_upperByPosition_r0.ext En2).other Wn6 (Or.inr (slot_ne (Or.inl (own_W hw 103 rfl)) (Or.inl (own_W hw 61 rfl)) (by decide) (t := (.object "com/example/placewright/placewright/solver/BasisFactorization$Lists")) (t' := (.array .int)) (by decide) (by decide)))).ext En8).other Wn12 (Or.inr (slot_ne (Or.inl (own_W hw 103 rfl)) (Or.inl (own_W hw 63 rfl)) (by decide) (t := (.object "com/example/placewright/placewright/solver/BasisFactorization$Lists")) (t' := (.array .int)) (by decide) (by decide)))).ext En14).other Wn18 (Or.inr (slot_ne (Or.inl (own_W hw 103 rfl)) (Or.inl (own_W hw 65 rfl)) (by decide) (t := (.object "com/example/placewright/placewright/solver/BasisFactorization$Lists")) (t' := (.array .double)) (by decide) (by decide)))).ext En20).other Wn24 (Or.inr (slot_ne (Or.inl (own_W hw 103 rfl)) (Or.inl (own_W hw 67 rfl)) (by decide) (t := (.object "com/example/placewright/placewright/solver/BasisFactorization$Lists")) (t' := (.array .int)) (by decide) (by decide)))).ext En26).keep Kk28 (ninS (Ne.symm ne31) nin0)).other Wn33 (Or.inr (slot_ne (Or.inl (own_W hw 103 rfl)) (Or.inr (own_W hw 82 rfl)) (by decide) (t := (.object "com/example/placewright/placewright/solver/BasisFactorization$Lists")) (t' := (.object "com/example/placewright/placewright/solver/BasisFactorization$Entries")) (by decide) (by decide)))).ext En35).other Wn39 (Or.inr (slot_ne (Or.inl (own_W hw 103 rfl)) (Or.inl (own_W hw 84 rfl)) (by decide) (t := (.object "com/example/placewright/placewright/solver/BasisFactorization$Lists")) (t' := (.array .int)) (by decide) (by decide)))).ext En41).keep Kk43 (ninS (Ne.symm ne46) nin0)).other Wn48 (Or.inr (slot_ne (Or.inl (own_W hw 103 rfl)) (Or.inl (own_W hw 101 rfl)) (by decide) (t := (.object "com/example/placewright/placewright/solver/BasisFactorization$Lists")) (t' := (.object "com/example/placewright/placewright/solver/BasisFactorization$Lists")) (by decide) (by decide)))).ext En50).keep Kk52 (ninS (Ne.symm ne55) nin0))
  obtain ⟨Tn57, hn57, Xn57, en57, Wn57, stn57⟩ := putF Xk52 hx hZ hown (host := "") (Or.inl (own_W hw 102 rfl)) Via.refl rfl F56 F54 (Or.inl (own_W hw 103 rfl)) (own_W hw 54 rfl) (ty := (.object "com/example/placewright/placewright/solver/BasisFactorization$Lists")) (by decide) rfl rfl (g := (mkF m 71 #[.val (.ref r0)] [(.ref bn50), (.ref r0)])) rfl rfl (hb hby own_d4_71)
  have Fwn57 : Fld Z hn57 r0 "com/example/placewright/placewright/solver/BasisFactorization" "upperByPosition" "Lcom/example/placewright/placewright/solver/BasisFactorization$Lists;" (.ref bn50) := F56.same Wn57
  have sz58 : h0.size ≤ hn57.size := Nat.le_trans sz53 (Nat.le_of_eq Wn57.size.symm)
  have Nn57 := Fr.snoc Xn57 Nk52 g_r0
  obtain ⟨Tn59, hn59, Xn59, en59, En59, An59, Dn59, -, stn59⟩ := newO Xn57 hx hZ hown (own_W hw 68 rfl) (own_W hw 69 rfl) (own_W hw 70 rfl) en57 (g := (mkF m 75 #[.val (.ref r0)] [(.ref r0)])) rfl (hb hby own_d4_75) (by decide) (by decide)
  obtain ⟨bn59, gn59⟩ : ∃ z, z = hn57.size := ⟨_, rfl⟩
  rw [← gn59] at An59 Dn59 stn59
  have g_bn59 : n0 ≤ bn59 := Nat.le_trans (Nat.le_trans Z0 sz58) (Nat.le_of_eq gn59.symm)
  have sz_bn59 : h0.size ≤ bn59 := Nat.le_trans sz58 (Nat.le_of_eq gn59.symm)
  have sz60 : h0.size ≤ hn59.size := Nat.le_trans sz58 En59.1
  have F_start_bn59 : Fld Z hn59 bn59 "com/example/placewright/placewright/solver/BasisFactorization$Entries" "start" "[I" .null := Dn59 (Or.inl (own_W hw 76 rfl)) (ty := (.array .int)) (by decide)
  have F_index_bn59 : Fld Z hn59 bn59 "com/example/placewright/placewright/solver/BasisFactorization$Entries" "index" "[I" .null := Dn59 (Or.inl (own_W hw 78 rfl)) (ty := (.array .int)) (by decide)
  have F_value_bn59 : Fld Z hn59 bn59 "com/example/placewright/placewright/solver/BasisFactorization$Entries" "value" "[D" .null := Dn59 (Or.inl (own_W hw 80 rfl)) (ty := (.array .double)) (by decide)
  obtain ⟨_, _, ⟨Tk61, Lk61, kk61, nk61⟩, -, Xk61, ⟨Lck61, hQk61, lk61, yk61, zk61⟩, stk61⟩ := own_specialRef Xn59 hx (y := (⟨"com/example/placewright/placewright/solver/BasisFactorization$Entries", "<init>", "()V"⟩ : MethodName)) rfl hown (own_mvR hZ (own_W hw 72 rfl) (by decide) (own_W hw 71 rfl)) (mvT hZ (own_W hw 72 rfl)) (mvT hZ (own_W hw 73 rfl)) (by decide) (backOf (W := 2) (own_rm5 l Z a0 hw [] bn59 .null .null .null hn59 n0 (Nat.le_trans Z0 sz60) An59 F_start_bn59 g_bn59 F_index_bn59 F_value_bn59) hZ (own_W hw 73 rfl) (own_W hw 70 rfl) (by decide) (by decide)) (g := (mkF m 79 #[.val (.ref r0)] [(.ref bn59), (.ref bn59), (.ref r0)])) rfl (by rw [hml]; rfl) (Steps.refl _) (a := bn59) (argsL := []) (rest := [(.ref bn59), (.ref r0)]) (lenOf own_pd0 rfl) rfl (by show 2 * 0 + _ ≤ _; exact Nat.le_of_eq rfl) (hb hby own_d4_79) (fun _ _ => ⟨rfl, en59, (by decide : 18 + 3 ≤ _), (by decide : 51 + 33 ≤ _)⟩)
  dsimp only [Pt.U, Pt.locs, Pt.cells, Pt.slots] at Xk61 lk61 yk61 zk61 stk61 hQk61
  replace lk61 := lk61.symm; replace yk61 := yk61.symm; replace zk61 := zk61.symm; subst lk61 yk61 zk61
  obtain ⟨rfl, Nk61q, Kk61, Qk61_0⟩ := hQk61
  have sz62 : h0.size ≤ Tk61.heap.size := Nat.le_trans sz60 Kk61.1
  have Nk61 := Fr.app Nn57 Nk61q
  have F63 := (((F54.wr Wn57).ext En59).keep Kk61)
  have ne64 : bn59 ≠ r0 := (Ne.symm (Nat.ne_of_lt (Nat.lt_of_lt_of_le (((((((((((((((((((F_rowEtas_r0.ext En2).other Wn6 (Or.inr (slot_ne (Or.inr (own_W hw 105 rfl)) (Or.inl (own_W hw 61 rfl)) (by decide) (t := (.object "com/example/placewright/placewright/solver/BasisFactorization$Entries")) (t' := (.array .int)) (by decide) (by decide)))).ext En8).other Wn12 (Or.inr (slot_ne (Or.inr (own_W hw 105 rfl)) (Or.inl (own_W hw 63 rfl)) (by decide) (t := (.object "com/example/placewright/placewright/solver/BasisFactorization$Entries")) (t' := (.array .int)) (by decide) (by decide)))).ext En14).other Wn18 (Or.inr (slot_ne (Or.inr (own_W hw 105 rfl)) (Or.inl (own_W hw 65 rfl)) (by decide) (t := (.object "com/example/placewright/placewright/solver/BasisFactorization$Entries")) (t' := (.array .double)) (by decide) (by decide)))).ext En20).other Wn24 (Or.inr (slot_ne (Or.inr (own_W hw 105 rfl)) (Or.inl (own_W hw 67 rfl)) (by decide) (t := (.object "com/example/placewright/placewright/solver/BasisFactorization$Entries")) (t' := (.array .int)) (by decide) (by decide)))).ext En26).keep Kk28 (ninS (Ne.symm ne31) nin0)).other Wn33 (Or.inr (slot_ne (Or.inr (own_W hw 105 rfl)) (Or.inr (own_W hw 82 rfl)) (by decide) (t := (.object "com/example/placewright/placewright/solver/BasisFactorization$Entries")) (t' := (.object "com/example/placewright/placewright/solver/BasisFactorization$Entries")) (by decide) (by decide)))).ext En35).other Wn39 (Or.inr (slot_ne (Or.inr (own_W hw 105 rfl)) (Or.inl (own_W hw 84 rfl)) (by decide) (t := (.object "com/example/placewright/placewright/solver/BasisFactorization$Entries")) (t' := (.array .int)) (by decide) (by decide)))).ext En41).keep Kk43 (ninS (Ne.symm ne46) nin0)).other Wn48 (Or.inr (slot_ne (Or.inr (own_W hw 105 rfl)) (Or.inl (own_W hw 101 rfl)) (by decide) (t := (.object "com/example/placewright/placewright/solver/BasisFactorization$Entries")) (t' := (.object "com/example/placewright/placewright/solver/BasisFactorization$Lists")) (by decide) (by decide)))).ext En50).keep Kk52 (ninS (Ne.symm ne55) nin0)).other Wn57 (Or.inr (slot_ne (Or.inr (own_W hw 105 rfl)) (Or.inl (own_W hw 103 rfl)) (by decide) (t := (.object "com/example/placewright/placewright/solver/BasisFactorization$Entries")) (t' := (.object "com/example/placewright/placewright/solver/BasisFactorization$Lists")) (by decide) (by decide)))).lt (Nat.le_of_eq gn59.symm))))
  have F65 := (((((((((((((((((((((F_rowEtas_r0.ext En2).other Wn6 (Or.inr (slot_ne (Or.inr (own_W hw 105 rfl)) (Or.inl (own_W hw 61 rfl)) (by decide) (t := (.object "com/example/placewright/placewright/solver/BasisFactorization$Entries")) (t' := (.array .int)) (by decide) (by decide)))).ext En8).other Wn12 (Or.inr (slot_ne (Or.inr (own_W hw 105 rfl)) (Or.inl (own_W hw 63 rfl)) (by decide) (t := (.object "com/example/placewright/placewright/solver/BasisFactorization$Entries")) (t' := (.array .int)) (by decide) (by decide)))).ext En14).other Wn18 (Or.inr (slot_ne (Or.inr (own_W hw 105 rfl)) (Or.inl (own_W hw 65 rfl)) (by decide) (t := (.object "com/example/placewright/placewright/solver/BasisFactorization$Entries")) (t' := (.array .double)) (by decide) (by decide)))).ext En20).other Wn24 (Or.inr (slot_ne (Or.inr (own_W hw 105 rfl)) (Or.inl (own_W hw 67 rfl)) (by decide) (t := (.object "com/example/placewright/placewright/solver/BasisFactorization$Entries")) (t' := (.array .int)) (by decide) (by decide)))).ext En26).keep Kk28 (ninS (Ne.symm ne31) nin0)).other Wn33 (Or.inr (slot_ne (Or.inr (own_W hw 105 rfl)) (Or.inr (own_W hw 82 rfl)) (by decide) (t := (.object "com/example/placewright/placewright/solver/BasisFactorization$Entries")) (t' := (.object "com/example/placewright/placewright/solver/BasisFactorization$Entries")) (by decide) (by decide)))).ext En35).other Wn39 (Or.inr (slot_ne (Or.inr (own_W hw 105 rfl)) (Or.inl (own_W hw 84 rfl)) (by decide) (t := (.object "com/example/placewright/placewright/solver/BasisFactorization$Entries")) (t' := (.array .int)) (by decide) (by decide)))).ext En41).keep Kk43 (ninS (Ne.symm ne46) nin0)).other Wn48 (Or.inr (slot_ne (Or.inr (own_W hw 105 rfl)) (Or.inl (own_W hw 101 rfl)) (by decide) (t := (.object "com/example/placewright/placewright/solver/BasisFactorization$Entries")) (t' := (.object "com/example/placewright/placewright/solver/BasisFactorization$Lists")) (by decide) (by decide)))).ext En50).keep Kk52 (ninS (Ne.symm ne55) nin0)).other Wn57 (Or.inr (slot_ne (Or.inr (own_W hw 105 rfl)) (Or.inl (own_W hw 103 rfl)) (by decide) (t := (.object "com/example/placewright/placewright/solver/BasisFactorization$Entries")) (t' := (.object "com/example/placewright/placewright/solver/BasisFactorization$Lists")) (by decide) (by decide)))).ext En59).keep Kk61 (ninS (Ne.symm ne64) nin0))
  obtain ⟨Tn66, hn66, Xn66, en66, Wn66, stn66⟩ := putF Xk61 hx hZ hown (host := "") (Or.inl (own_W hw 104 rfl)) Via.refl rfl F65 F63 (Or.inr ⟨(own_W hw 105 rfl), rfl, hnm⟩) (own_W hw 54 rfl) (ty := (.object "com/example/placewright/placewright/solver/BasisFactorization$Entries")) (by decide) rfl rfl (g := (mkF m 82 #[.val (.ref r0)] [(.ref bn59), (.ref r0)])) rfl rfl (hb hby own_d4_82)
  have Fwn66 : Fld Z hn66 r0 "com/example/placewright/placewright/solver/BasisFactorization" "rowEtas" "Lcom/example/placewright/placewright/solver/BasisFactorization$Entries;" (.ref bn59) := F65.same Wn66
  have sz67 : h0.size ≤ hn66.size := Nat.le_trans sz62 (Nat.le_of_eq Wn66.size.symm)
  have Nn66 := Fr.snoc Xn66 Nk61 g_r0
  obtain ⟨Tn68, hn68, kn68, Xn68, en68, En68, An68, Exn68, stn68⟩ := newPE Xn66 hx hZ (own_W hw 25 rfl) en66 (g := (mkF m 87 #[.val (.ref r0)] [(.int 0), (.ref r0)])) rfl (hb hby own_d4_87) rfl (by decide) (cap := 0) (by decide) (by decide) (by decide) (by decide) (ad := "[I") (by decide)
  obtain ⟨bn68, gn68⟩ : ∃ z, z = hn66.size := ⟨_, rfl⟩
  rw [← gn68] at An68 Exn68 stn68
  have g_bn68 : n0 ≤ bn68 := Nat.le_trans (Nat.le_trans Z0 sz67) (Nat.le_of_eq gn68.symm)
  have sz_bn68 : h0.size ≤ bn68 := Nat.le_trans sz67 (Nat.le_of_eq gn68.symm)
  have sz69 : h0.size ≤ hn68.size := Nat.le_trans sz67 En68.1
  have V_bn68 : Arv Z hn68 bn68 kn68 .int (0 : Int32) (own_G (0 : Int32) (own_all (.int 0))) (.int 0) := own_newG An68 (by decide)
  have F70 := ((F63.wr Wn66).ext En68)
  have F71 := (((((((((((((((((((((((F_rowEtaRow_r0.ext En2).other Wn6 (Or.inr (slot_ne (Or.inl (own_W hw 107 rfl)) (Or.inl (own_W hw 61 rfl)) (by decide) (t := (.array .int)) (t' := (.array .int)) (by decide) (by decide)))).ext En8).other Wn12 (Or.inr (slot_ne (Or.inl (own_W hw 107 rfl)) (Or.inl (own_W hw 63 rfl)) (by decide) (t := (.array .int)) (t' := (.array .int)) (by decide) (by decide)))).ext En14).other Wn18 (Or.inr (slot_ne (Or.inl (own_W hw 107 rfl)) (Or.inl (own_W hw 65 rfl)) (by decide) (t := (.array .int)) (t' := (.array .double)) (by decide) (by decide)))).ext En20).other Wn24 (Or.inr (slot_ne (Or.inl (own_W hw 107 rfl)) (Or.inl (own_W hw 67 rfl)) (by decide) (t := (.array .int)) (t' := (.array .int)) (by decide) (by decide)))).ext En26).keep Kk28 (ninS (Ne.symm ne31) nin0)).other Wn33 (Or.inr (slot_ne (Or.inl (own_W hw 107 rfl)) (Or.inr (own_W hw 82 rfl)) (by decide) (t := (.array .int)) (t' := (.object "com/example/placewright/placewright/solver/BasisFactorization$Entries")) (by decide) (by decide)))).ext En35).other Wn39 (Or.inr (slot_ne (Or.inl (own_W hw 107 rfl)) (Or.inl (own_W hw 84 rfl)) (by decide) (t := (.array .int)) (t' := (.array .int)) (by decide) (by decide)))).ext En41).keep Kk43 (ninS (Ne.symm ne46) nin0)).other Wn48 (Or.inr (slot_ne (Or.inl (own_W hw 107 rfl)) (Or.inl (own_W hw 101 rfl)) (by decide) (t := (.array .int)) (t' := (.object "com/example/placewright/placewright/solver/BasisFactorization$Lists")) (by decide) (by decide)))).ext En50).keep Kk52 (ninS (Ne.symm ne55) nin0)).other Wn57 (Or.inr (slot_ne (Or.inl (own_W hw 107 rfl)) (Or.inl (own_W hw 103 rfl)) (by decide) (t := (.array .int)) (t' := (.object "com/example/placewright/placewright/solver/BasisFactorization$Lists")) (by decide) (by decide)))).ext En59).keep Kk61 (ninS (Ne.symm ne64) nin0)).other Wn66 (Or.inr (slot_ne (Or.inl (own_W hw 107 rfl)) (Or.inr (own_W hw 105 rfl)) (by decide) (t := (.array .int)) (t' := (.object "com/example/placewright/placewright/solver/BasisFactorization$Entries")) (by decide) (by decide)))).ext En68)
  obtain ⟨Tn72, hn72, Xn72, en72, Wn72, stn72⟩ := putF Xn68 hx hZ hown (host := "") (Or.inl (own_W hw 106 rfl)) Via.refl en68 F71 F70 (Or.inl (own_W hw 107 rfl)) (own_W hw 54 rfl) (ty := (.array .int)) (by decide) rfl rfl (g := (mkF m 89 #[.val (.ref r0)] [(.ref bn68), (.ref r0)])) rfl rfl (hb hby own_d4_89)
  have Fwn72 : Fld Z hn72 r0 "com/example/placewright/placewright/solver/BasisFactorization" "rowEtaRow" "[I" (.ref bn68) := F71.same Wn72
  have sz73 : h0.size ≤ hn72.size := Nat.le_trans sz69 (Nat.le_of_eq Wn72.size.symm)
  have Nn72 := Fr.snoc Xn72 Nn66 g_r0
  obtain ⟨Tn74, hn74, kn74, Xn74, en74, En74, An74, Exn74, stn74⟩ := newPE Xn72 hx hZ (own_W hw 22 rfl) en72 (g := (mkF m 94 #[.val (.ref r0)] [(.int 0), (.ref r0)])) rfl (hb hby own_d4_94) rfl (by decide) (cap := 0) (by decide) (by decide) (by decide) (by decide) (ad := "[D") (by decide)
  obtain ⟨bn74, gn74⟩ : ∃ z, z = hn72.size := ⟨_, rfl⟩
  rw [← gn74] at An74 Exn74 stn74
  have g_bn74 : n0 ≤ bn74 := Nat.le_trans (Nat.le_trans Z0 sz73) (Nat.le_of_eq gn74.symm)
  have sz_bn74 : h0.size ≤ bn74 := Nat.le_trans sz73 (Nat.le_of_eq gn74.symm)
  have sz75 : h0.size ≤ hn74.size := Nat.le_trans sz73 En74.1
  have V_bn74 : Arv Z hn74 bn74 kn74 .double (0 : Int32) (own_G (0 : Int32) (own_all (.double 0))) (.double 0) := own_newG An74 (by decide)
  have F76 := ((F70.wr Wn72).ext En74)
  have F77 := (((((((((((((((((((((((((F_byRow_r0.ext En2).other Wn6 (Or.inr (slot_ne (Or.inl (own_W hw 109 rfl)) (Or.inl (own_W hw 61 rfl)) (by decide) (t := (.array .double)) (t' := (.array .int)) (by decide) (by decide)))).ext En8).other Wn12 (Or.inr (slot_ne (Or.inl (own_W hw 109 rfl)) (Or.inl (own_W hw 63 rfl)) (by decide) (t := (.array .double)) (t' := (.array .int)) (by decide) (by decide)))).ext En14).other Wn18 (Or.inr (slot_ne (Or.inl (own_W hw 109 rfl)) (Or.inl (own_W hw 65 rfl)) (by decide) (t := (.array .double)) (t' := (.array .double)) (by decide) (by decide)))).ext En20).other Wn24 (Or.inr (slot_ne (Or.inl (own_W hw 109 rfl)) (Or.inl (own_W hw 67 rfl)) (by decide) (t := (.array .double)) (t' := (.array .int)) (by decide) (by decide)))).ext En26).keep Kk28 (ninS (Ne.symm ne31) nin0)).other Wn33 (Or.inr (slot_ne (Or.inl (own_W hw 109 rfl)) (Or.inr (own_W hw 82 rfl)) (by decide) (t := (.array .double)) (t' := (.object "com/example/placewright/placewright/solver/BasisFactorization$Entries")) (by decide) (by decide)))).ext En35).other Wn39 (Or.inr (slot_ne (Or.inl (own_W hw 109 rfl)) (Or.inl (own_W hw 84 rfl)) (by decide) (t := (.array .double)) (t' := (.array .int)) (by decide) (by decide)))).ext En41).keep Kk43 (ninS (Ne.symm ne46) nin0)).other Wn48 (Or.inr (slot_ne (Or.inl (own_W hw 109 rfl)) (Or.inl (own_W hw 101 rfl)) (by decide) (t := (.array .double)) (t' := (.object "com/example/placewright/placewright/solver/BasisFactorization$Lists")) (by decide) (by decide)))).ext En50).keep Kk52 (ninS (Ne.symm ne55) nin0)).other Wn57 (Or.inr (slot_ne (Or.inl (own_W hw 109 rfl)) (Or.inl (own_W hw 103 rfl)) (by decide) (t := (.array .double)) (t' := (.object "com/example/placewright/placewright/solver/BasisFactorization$Lists")) (by decide) (by decide)))).ext En59).keep Kk61 (ninS (Ne.symm ne64) nin0)).other Wn66 (Or.inr (slot_ne (Or.inl (own_W hw 109 rfl)) (Or.inr (own_W hw 105 rfl)) (by decide) (t := (.array .double)) (t' := (.object "com/example/placewright/placewright/solver/BasisFactorization$Entries")) (by decide) (by decide)))).ext En68).other Wn72 (Or.inr (slot_ne (Or.inl (own_W hw 109 rfl)) (Or.inl (own_W hw 107 rfl)) (by decide) (t := (.array .double)) (t' := (.array .int)) (by decide) (by decide)))).ext En74)
  obtain ⟨Tn78, hn78, Xn78, en78, Wn78, stn78⟩ := putF Xn74 hx hZ hown (host := "") (Or.inl (own_W hw 108 rfl)) Via.refl en74 F77 F76 (Or.inl (own_W hw 109 rfl)) (own_W hw 54 rfl) (ty := (.array .double)) (by decide) rfl rfl (g := (mkF m 96 #[.val (.ref r0)] [(.ref bn74), (.ref r0)])) rfl rfl (hb hby own_d4_96)
  have Fwn78 : Fld Z hn78 r0 "com/example/placewright/placewright/solver/BasisFactorization" "byRow" "[D" (.ref bn74) := F77.same Wn78
  have sz79 : h0.size ≤ hn78.size := Nat.le_trans sz75 (Nat.le_of_eq Wn78.size.symm)
  have Nn78 := Fr.snoc Xn78 Nn72 g_r0
  obtain ⟨Tn80, hn80, kn80, Xn80, en80, En80, An80, Exn80, stn80⟩ := newPE Xn78 hx hZ (own_W hw 22 rfl) en78 (g := (mkF m 101 #[.val (.ref r0)] [(.int 0), (.ref r0)])) rfl (hb hby own_d4_101) rfl (by decide) (cap := 0) (by decide) (by decide) (by decide) (by decide) (ad := "[D") (by decide)
  obtain ⟨bn80, gn80⟩ : ∃ z, z = hn78.size := ⟨_, rfl⟩
  rw [← gn80] at An80 Exn80 stn80
  have g_bn80 : n0 ≤ bn80 := Nat.le_trans (Nat.le_trans Z0 sz79) (Nat.le_of_eq gn80.symm)
  have sz_bn80 : h0.size ≤ bn80 := Nat.le_trans sz79 (Nat.le_of_eq gn80.symm)
  have sz81 : h0.size ≤ hn80.size := Nat.le_trans sz79 En80.1
  have V_bn80 : Arv Z hn80 bn80 kn80 .double (0 : Int32) (own_G (0 : Int32) (own_all (.double 0))) (.double 0) := own_newG An80 (by decide)
  have F82 := ((F76.wr Wn78).ext En80)
  have F83 := (((((((((((((((((((((((((((F_byPosition_r0.ext En2).other Wn6 (Or.inr (slot_ne (Or.inl (own_W hw 111 rfl)) (Or.inl (own_W hw 61 rfl)) (by decide) (t := (.array .double)) (t' := (.array .int)) (by decide) (by decide)))).ext En8).other Wn12 (Or.inr (slot_ne (Or.inl (own_W hw 111 rfl)) (Or.inl (own_W hw 63 rfl)) (by decide) (t := (.array .double)) (t' := (.array .int)) (by decide) (by decide)))).ext En14).other Wn18 (Or.inr (slot_ne (Or.inl (own_W hw 111 rfl)) (Or.inl (own_W hw 65 rfl)) (by decide) (t := (.array .double)) (t' := (.array .double)) (by decide) (by decide)))).ext En20).other Wn24 (Or.inr (slot_ne (Or.inl (own_W hw 111 rfl)) (Or.inl (own_W hw 67 rfl)) (by decide) (t := (.array .double)) (t' := (.array .int)) (by decide) (by decide)))).ext En26).keep Kk28 (ninS (Ne.symm ne31) nin0)).other Wn33 (Or.inr (slot_ne (Or.inl (own_W hw 111 rfl)) (Or.inr (own_W hw 82 rfl)) (by decide) (t := (.array .double)) (t' := (.object "com/example/placewright/placewright/solver/BasisFactorization$Entries")) (by decide) (by decide)))).ext En35).other Wn39 (Or.inr (slot_ne (Or.inl (own_W hw 111 rfl)) (Or.inl (own_W hw 84 rfl)) (by decide) (t := (.array .double)) (t' := (.array .int)) (by decide) (by decide)))).ext En41).keep Kk43 (ninS (Ne.symm ne46) nin0)).other Wn48 (Or.inr (slot_ne (Or.inl (own_W hw 111 rfl)) (Or.inl (own_W hw 101 rfl)) (by decide) (t := (.array .double)) (t' := (.object "com/example/placewright/placewright/solver/BasisFactorization$Lists")) (by decide) (by decide)))).ext En50).keep Kk52 (ninS (Ne.symm ne55) nin0)).other Wn57 (Or.inr (slot_ne (Or.inl (own_W hw 111 rfl)) (Or.inl (own_W hw 103 rfl)) (by decide) (t := (.array .double)) (t' := (.object "com/example/placewright/placewright/solver/BasisFactorization$Lists")) (by decide) (by decide)))).ext En59).keep Kk61 (ninS (Ne.symm ne64) nin0)).other Wn66 (Or.inr (slot_ne (Or.inl (own_W hw 111 rfl)) (Or.inr (own_W hw 105 rfl)) (by decide) (t := (.array .double)) (t' := (.object "com/example/placewright/placewright/solver/BasisFactorization$Entries")) (by decide) (by decide)))).ext En68).other Wn72 (Or.inr (slot_ne (Or.inl (own_W hw 111 rfl)) (Or.inl (own_W hw 107 rfl)) (by decide) (t := (.array .double)) (t' := (.array .int)) (by decide) (by decide)))).ext En74).other Wn78 (Or.inr (slot_ne (Or.inl (own_W hw 111 rfl)) (Or.inl (own_W hw 109 rfl)) (by decide) (t := (.array .double)) (t' := (.array .double)) (by decide) (by decide)))).ext En80)
  obtain ⟨Tn84, hn84, Xn84, en84, Wn84, stn84⟩ := putF Xn80 hx hZ hown (host := "") (Or.inl (own_W hw 110 rfl)) Via.refl en80 F83 F82 (Or.inl (own_W hw 111 rfl)) (own_W hw 54 rfl) (ty := (.array .double)) (by decide) rfl rfl (g := (mkF m 103 #[.val (.ref r0)] [(.ref bn80), (.ref r0)])) rfl rfl (hb hby own_d4_103)
  have Fwn84 : Fld Z hn84 r0 "com/example/placewright/placewright/solver/BasisFactorization" "byPosition" "[D" (.ref bn80) := F83.same Wn84
  have sz85 : h0.size ≤ hn84.size := Nat.le_trans sz81 (Nat.le_of_eq Wn84.size.symm)
  have Nn84 := Fr.snoc Xn84 Nn78 g_r0
  obtain ⟨fs, hr, hrun, hended, hW, hsame⟩ := Xn84.leave (v := none) (fun _ => rfl)
  refine ⟨_, _, pre0 _ (?_), hrun, hended, _, _, rfl, ?_, ⟨_, rfl⟩, hW, hsame.mono (by decide) (by decide)⟩
  · show Steps p.tables e below (s₁.setTop (mkF m 0 #[.val (.ref r0)] [])) _
    refine XS.aloadN X0.here hx rfl (hb hby own_d4_0) rfl rfl ?_
    refine stn1 _ ?_
    refine XS.aloadN Xn1.here hx rfl (hb hby own_d4_4) rfl rfl ?_
    refine XS.iconst Xn1.here hx rfl (hb hby own_d4_5) ?_
    refine stn2 _ ?_
    show Steps p.tables e below (Tn2.setTop (mkF m 8 #[.val (.ref r0)] [(.ref bn2), (.ref r0)])) _
    refine stn6 _ ?_
    refine XS.aloadN Xn6.here hx rfl (hb hby own_d4_11) rfl rfl ?_
    refine XS.iconst Xn6.here hx rfl (hb hby own_d4_12) ?_
    refine stn8 _ ?_
    show Steps p.tables e below (Tn8.setTop (mkF m 15 #[.val (.ref r0)] [(.ref bn8), (.ref r0)])) _
    refine stn12 _ ?_
    refine XS.aloadN Xn12.here hx rfl (hb hby own_d4_18) rfl rfl ?_
    refine XS.iconst Xn12.here hx rfl (hb hby own_d4_19) ?_
    refine stn14 _ ?_
    show Steps p.tables e below (Tn14.setTop (mkF m 22 #[.val (.ref r0)] [(.ref bn14), (.ref r0)])) _
    refine stn18 _ ?_
    refine XS.aloadN Xn18.here hx rfl (hb hby own_d4_25) rfl rfl ?_
    refine XS.iconst Xn18.here hx rfl (hb hby own_d4_26) ?_
    refine stn20 _ ?_
    show Steps p.tables e below (Tn20.setTop (mkF m 29 #[.val (.ref r0)] [(.ref bn20), (.ref r0)])) _
    refine stn24 _ ?_
    refine XS.aloadN Xn24.here hx rfl (hb hby own_d4_32) rfl rfl ?_
    refine stn26 _ ?_
    show Steps p.tables e below (Tn26.setTop (mkF m 36 #[.val (.ref r0)] [(.ref bn26), (.ref r0)])) _
    refine XS.dup Xn26.here hx rfl (hb hby own_d4_36) rfl rfl ?_
    refine stk28.trans ?_
    refine stn33 _ ?_
    show Steps p.tables e below (Tn33.setTop (mkF m 43 #[.val (.ref r0)] [])) _
    refine XS.aloadN Xn33.here hx rfl (hb hby own_d4_43) rfl rfl ?_
    refine XS.iconst Xn33.here hx rfl (hb hby own_d4_44) ?_
    refine stn35 _ ?_
    show Steps p.tables e below (Tn35.setTop (mkF m 47 #[.val (.ref r0)] [(.ref bn35), (.ref r0)])) _
    refine stn39 _ ?_
    refine XS.aloadN Xn39.here hx rfl (hb hby own_d4_50) rfl rfl ?_
    refine stn41 _ ?_
    show Steps p.tables e below (Tn41.setTop (mkF m 54 #[.val (.ref r0)] [(.ref bn41), (.ref r0)])) _
    refine XS.dup Xn41.here hx rfl (hb hby own_d4_54) rfl rfl ?_
    refine XS.iconst Xn41.here hx rfl (hb hby own_d4_55) ?_
    refine stk43.trans ?_
    show Steps p.tables e below (Tk43.setTop (mkF m 59 #[.val (.ref r0)] [(.ref bn41), (.ref r0)])) _
    refine stn48 _ ?_
    refine XS.aloadN Xn48.here hx rfl (hb hby own_d4_62) rfl rfl ?_
    refine stn50 _ ?_
    show Steps p.tables e below (Tn50.setTop (mkF m 66 #[.val (.ref r0)] [(.ref bn50), (.ref r0)])) _
    refine XS.dup Xn50.here hx rfl (hb hby own_d4_66) rfl rfl ?_
    refine XS.iconst Xn50.here hx rfl (hb hby own_d4_67) ?_
    refine stk52.trans ?_
    show Steps p.tables e below (Tk52.setTop (mkF m 71 #[.val (.ref r0)] [(.ref bn50), (.ref r0)])) _
    refine stn57 _ ?_
    refine XS.aloadN Xn57.here hx rfl (hb hby own_d4_74) rfl rfl ?_
    refine stn59 _ ?_
    show Steps p.tables e below (Tn59.setTop (mkF m 78 #[.val (.ref r0)] [(.ref bn59), (.ref r0)])) _
    refine XS.dup Xn59.here hx rfl (hb hby own_d4_78) rfl rfl ?_
    refine stk61.trans ?_
    refine stn66 _ ?_
    show Steps p.tables e below (Tn66.setTop (mkF m 85 #[.val (.ref r0)] [])) _
    refine XS.aloadN Xn66.here hx rfl (hb hby own_d4_85) rfl rfl ?_
    refine XS.iconst Xn66.here hx rfl (hb hby own_d4_86) ?_
    refine stn68 _ ?_
    show Steps p.tables e below (Tn68.setTop (mkF m 89 #[.val (.ref r0)] [(.ref bn68), (.ref r0)])) _
    refine stn72 _ ?_
    refine XS.aloadN Xn72.here hx rfl (hb hby own_d4_92) rfl rfl ?_
    refine XS.iconst Xn72.here hx rfl (hb hby own_d4_93) ?_
    refine stn74 _ ?_
    show Steps p.tables e below (Tn74.setTop (mkF m 96 #[.val (.ref r0)] [(.ref bn74), (.ref r0)])) _
    refine stn78 _ ?_
    refine XS.aloadN Xn78.here hx rfl (hb hby own_d4_99) rfl rfl ?_
    refine XS.iconst Xn78.here hx rfl (hb hby own_d4_100) ?_
    refine stn80 _ ?_
    show Steps p.tables e below (Tn80.setTop (mkF m 103 #[.val (.ref r0)] [(.ref bn80), (.ref r0)])) _
    refine stn84 _ ?_
    show Steps p.tables e below (Tn84.setTop (mkF m 106 #[.val (.ref r0)] [])) _
    exact Xn84.returnOut hx Bd.returns (hb hby own_d4_106) hr
  · show own_Q4 Z r0 w_stepRow_r0 w_stepPosition_r0 w_diagonal_r0 w_stepOfPosition_r0 w_lower_r0 w_lowerRow_r0 w_upperByRow_r0 w_upperByPosition_r0 w_rowEtas_r0 w_rowEtaRow_r0 w_byRow_r0 w_byPosition_r0 h0 n0 _ Tn84.heap _
    rw [en84]
    exact ⟨rfl, Nn84, (((((((((((((((((((((((((((((Keep.refl h0 [r0]).ext En2).wr Wn6 (Or.inl (List.mem_of_getElem? (i := 0) rfl))).ext En8).wr Wn12 (Or.inl (List.mem_of_getElem? (i := 0) rfl))).ext En14).wr Wn18 (Or.inl (List.mem_of_getElem? (i := 0) rfl))).ext En20).wr Wn24 (Or.inl (List.mem_of_getElem? (i := 0) rfl))).ext En26).trans Kk28 (allS (Or.inr sz_bn26) all0)).wr Wn33 (Or.inl (List.mem_of_getElem? (i := 0) rfl))).ext En35).wr Wn39 (Or.inl (List.mem_of_getElem? (i := 0) rfl))).ext En41).trans Kk43 (allS (Or.inr sz_bn41) all0)).wr Wn48 (Or.inl (List.mem_of_getElem? (i := 0) rfl))).ext En50).trans Kk52 (allS (Or.inr sz_bn50) all0)).wr Wn57 (Or.inl (List.mem_of_getElem? (i := 0) rfl))).ext En59).trans Kk61 (allS (Or.inr sz_bn59) all0)).wr Wn66 (Or.inl (List.mem_of_getElem? (i := 0) rfl))).ext En68).wr Wn72 (Or.inl (List.mem_of_getElem? (i := 0) rfl))).ext En74).wr Wn78 (Or.inl (List.mem_of_getElem? (i := 0) rfl))).ext En80).wr Wn84 (Or.inl (List.mem_of_getElem? (i := 0) rfl))), (F82.wr Wn84)⟩
theorem own_m3 (y : Int32) : (y &&& (3 : Int32)) = (0 : Int32) ∨ (y &&& (3 : Int32)) = (1 : Int32) ∨ (y &&& (3 : Int32)) = (2 : Int32) ∨ (y &&& (3 : Int32)) = (3 : Int32) := by
  have h := Jvm.Kit.i32_mask y (3 : Int32) (k := 2) (by decide) (by decide)
  have e0 : (0 : Int32).toInt = 0 := by decide
  have e1 : (1 : Int32).toInt = 1 := by decide
  have e2 : (2 : Int32).toInt = 2 := by decide
  have e3 : (3 : Int32).toInt = 3 := by decide
  rcases (show y.toInt % 2 ^ 2 = 0 ∨ y.toInt % 2 ^ 2 = 1 ∨ y.toInt % 2 ^ 2 = 2 ∨ y.toInt % 2 ^ 2 = 3 by omega) with q | q | q | q
  · exact Or.inl (Int32.toInt_inj.mp (by rw [h, q, e0]))
  · exact Or.inr (Or.inl (Int32.toInt_inj.mp (by rw [h, q, e1])))
  · exact Or.inr (Or.inr (Or.inl (Int32.toInt_inj.mp (by rw [h, q, e2]))))
  · exact Or.inr (Or.inr (Or.inr (Int32.toInt_inj.mp (by rw [h, q, e3]))))
theorem own_cases (x : Int32) : ((XT.ushr x (6 : Int32)) &&& (3 : Int32)) = (0 : Int32) ∨ ((XT.ushr x (6 : Int32)) &&& (3 : Int32)) = (1 : Int32) ∨ ((XT.ushr x (6 : Int32)) &&& (3 : Int32)) = (2 : Int32) ∨ ((XT.ushr x (6 : Int32)) &&& (3 : Int32)) = (3 : Int32) := own_m3 _
theorem own_pn3 : plainName "com/example/placewright/placewright/solver/RevisedSimplexObjectivePinLaw" = true := by first | (simp [plainName, overriddenIn]; done) | decide +kernel
def own_L0 (x0 : Int32) (x1 : Int32) (x2 : Int32) (x3 : Int32) (x4 : Int32) (x5 : Int32) : Array Slot := #[.val (.int x0), .val (.int x1), .val (.int x2), .val (.int x3), .val (.int x4), .val (.int x5), .unset, .unset, .unset, .unset, .unset, .unset, .unset, .unset, .unset, .unset, .unset, .unset, .unset, .unset, .unset, .unset, .unset, .unset, .unset, .unset, .unset, .unset]
def own_L1 (x0 : Int32) (x1 : Int32) (x2 : Int32) (x3 : Int32) (x4 : Int32) (x5 : Int32) (x6 : Int32) : Array Slot := #[.val (.int x0), .val (.int x1), .val (.int x2), .val (.int x3), .val (.int x4), .val (.int x5), .val (.int x6), .unset, .unset, .unset, .unset, .unset, .unset, .unset, .unset, .unset, .unset, .unset, .unset, .unset, .unset, .unset, .unset, .unset, .unset, .unset, .unset, .unset]
def own_L2 (x0 : Int32) (x1 : Int32) (x2 : Int32) (x3 : Int32) (x4 : Int32) (x5 : Int32) (x6 : Int32) (x7 : Int32) : Array Slot := #[.val (.int x0), .val (.int x1), .val (.int x2), .val (.int x3), .val (.int x4), .val (.int x5), .val (.int x6), .val (.int x7), .unset, .unset, .unset, .unset, .unset, .unset, .unset, .unset, .unset, .unset, .unset, .unset, .unset, .unset, .unset, .unset, .unset, .unset, .unset, .unset]
def own_L3 (x0 : Int32) (x1 : Int32) (x2 : Int32) (x3 : Int32) (x4 : Int32) (x5 : Int32) (x6 : Int32) (x7 : Int32) (x8 : Int32) : Array Slot := #[.val (.int x0), .val (.int x1), .val (.int x2), .val (.int x3), .val (.int x4), .val (.int x5), .val (.int x6), .val (.int x7), .val (.int x8), .unset, .unset, .unset, .unset, .unset, .unset, .unset, .unset, .unset, .unset, .unset, .unset, .unset, .unset, .unset, .unset, .unset, .unset, .unset]
def own_L4 (x0 : Int32) (x1 : Int32) (x2 : Int32) (x3 : Int32) (x4 : Int32) (x5 : Int32) (x6 : Int32) (x7 : Int32) (x8 : Int32) (x9 : Int32) : Array Slot := #[.val (.int x0), .val (.int x1), .val (.int x2), .val (.int x3), .val (.int x4), .val (.int x5), .val (.int x6), .val (.int x7), .val (.int x8), .val (.int x9), .unset, .unset, .unset, .unset, .unset, .unset, .unset, .unset, .unset, .unset, .unset, .unset, .unset, .unset, .unset, .unset, .unset, .unset]
def own_L5 (x0 : Int32) (x1 : Int32) (x2 : Int32) (x3 : Int32) (x4 : Int32) (x5 : Int32) (x6 : Int32) (x7 : Int32) (x8 : Int32) (x9 : Int32) (x10 : Int32) : Array Slot := #[.val (.int x0), .val (.int x1), .val (.int x2), .val (.int x3), .val (.int x4), .val (.int x5), .val (.int x6), .val (.int x7), .val (.int x8), .val (.int x9), .val (.int x10), .unset, .unset, .unset, .unset, .unset, .unset, .unset, .unset, .unset, .unset, .unset, .unset, .unset, .unset, .unset, .unset, .unset]
def own_L6 (x0 : Int32) (x1 : Int32) (x2 : Int32) (x3 : Int32) (x4 : Int32) (x5 : Int32) (x6 : Int32) (x7 : Int32) (x8 : Int32) (x9 : Int32) (x10 : Int32) (x11 : Int32) : Array Slot := #[.val (.int x0), .val (.int x1), .val (.int x2), .val (.int x3), .val (.int x4), .val (.int x5), .val (.int x6), .val (.int x7), .val (.int x8), .val (.int x9), .val (.int x10), .val (.int x11), .unset, .unset, .unset, .unset, .unset, .unset, .unset, .unset, .unset, .unset, .unset, .unset, .unset, .unset, .unset, .unset]
def own_L7 (x0 : Int32) (x1 : Int32) (x2 : Int32) (x3 : Int32) (x4 : Int32) (x5 : Int32) (x6 : Int32) (x7 : Int32) (x8 : Int32) (x9 : Int32) (x10 : Int32) (x11 : Int32) (x12 : Int32) : Array Slot := #[.val (.int x0), .val (.int x1), .val (.int x2), .val (.int x3), .val (.int x4), .val (.int x5), .val (.int x6), .val (.int x7), .val (.int x8), .val (.int x9), .val (.int x10), .val (.int x11), .val (.int x12), .unset, .unset, .unset, .unset, .unset, .unset, .unset, .unset, .unset, .unset, .unset, .unset, .unset, .unset, .unset]
def own_L8 (x0 : Int32) (x1 : Int32) (x2 : Int32) (x3 : Int32) (x4 : Int32) (x5 : Int32) (x6 : Int32) (x7 : Int32) (x8 : Int32) (x9 : Int32) (x10 : Int32) (x11 : Int32) (x12 : Int32) (x13 : Int32) : Array Slot := #[.val (.int x0), .val (.int x1), .val (.int x2), .val (.int x3), .val (.int x4), .val (.int x5), .val (.int x6), .val (.int x7), .val (.int x8), .val (.int x9), .val (.int x10), .val (.int x11), .val (.int x12), .val (.int x13), .unset, .unset, .unset, .unset, .unset, .unset, .unset, .unset, .unset, .unset, .unset, .unset, .unset, .unset]
def own_L9 (x0 : Int32) (x1 : Int32) (x2 : Int32) (x3 : Int32) (x4 : Int32) (x5 : Int32) (x6 : Int32) (x7 : Int32) (x8 : Int32) (x9 : Int32) (x10 : Int32) (x11 : Int32) (x12 : Int32) : Array Slot := #[.val (.int x0), .val (.int x1), .val (.int x2), .val (.int x3), .val (.int x4), .val (.int x5), .val (.int x6), .val (.int x7), .val (.int x8), .val (.int x9), .val (.int x10), .val (.int x11), .val (.int x12), .val (.int 0), .unset, .unset, .unset, .unset, .unset, .unset, .unset, .unset, .unset, .unset, .unset, .unset, .unset, .unset]
def own_L10 (x0 : Int32) (x1 : Int32) (x2 : Int32) (x3 : Int32) (x4 : Int32) (x5 : Int32) (x6 : Int32) (x7 : Int32) (x8 : Int32) (x9 : Int32) (x10 : Int32) (x11 : Int32) (x12 : Int32) (x13 : Int32) : Array Slot := #[.val (.int x0), .val (.int x1), .val (.int x2), .val (.int x3), .val (.int x4), .val (.int x5), .val (.int x6), .val (.int x7), .val (.int x8), .val (.int x9), .val (.int x10), .val (.int x11), .val (.int x12), .val (.int 0), .val (.int x13), .unset, .unset, .unset, .unset, .unset, .unset, .unset, .unset, .unset, .unset, .unset, .unset, .unset]
def own_L11 (x0 : Int32) (x1 : Int32) (x2 : Int32) (x3 : Int32) (x4 : Int32) (x5 : Int32) (x6 : Int32) (x7 : Int32) (x8 : Int32) (x9 : Int32) (x10 : Int32) (x11 : Int32) (x12 : Int32) (x13 : Int32) (x14 : Int32) : Array Slot := #[.val (.int x0), .val (.int x1), .val (.int x2), .val (.int x3), .val (.int x4), .val (.int x5), .val (.int x6), .val (.int x7), .val (.int x8), .val (.int x9), .val (.int x10), .val (.int x11), .val (.int x12), .val (.int 0), .val (.int x13), .val (.int x14), .unset, .unset, .unset, .unset, .unset, .unset, .unset, .unset, .unset, .unset, .unset, .unset]
theorem own_d1_0 : decode jdk_29_method_69_code 0 = .ok (.iload_n 0, 1) := by decide +kernel
theorem own_d1_1 : decode jdk_29_method_69_code 1 = .ok (.iload_n 1, 1) := by decide +kernel
theorem own_d1_2 : decode jdk_29_method_69_code 2 = .ok (.if_icmp .gt 7, 3) := by decide +kernel
theorem own_d1_5 : decode jdk_29_method_69_code 5 = .ok (.iload_n 0, 1) := by decide +kernel
theorem own_d1_6 : decode jdk_29_method_69_code 6 = .ok (.goto 4, 3) := by decide +kernel
theorem own_d1_10 : decode jdk_29_method_69_code 10 = .ok (.ireturn, 1) := by decide +kernel
theorem own_ef1_0_2 (m : MethodId) : entryFrame m #[(.int 0), (.int 2)] 2 = mkF m 0 #[.val (.int 0), .val (.int 2)] [] := by first | (simp [entryFrame, mkF, argsToLocals, Value.category]; done) | rfl
def own_Q1_0_2 (Z : State) (h0 : Heap) (n0 : Nat) (v : Option Value) (h : Heap) (L : List Loc) : Prop := v = some (.int 0) ∧ Fr n0 L ∧ h = h0
set_option maxRecDepth 65536 in
set_option maxHeartbeats 40000000 in
theorem own_rm1_0_2 (l : Launch) (Z : State) (a0 : Array Value) (hw : ∀ d ∈ tables_1, d.before a0 Z = true) (ws : List Jvm.Cond) (h0 : Heap) (n0 : Nat) (Z0 : n0 ≤ h0.size) :
    MetFree l (⟨"java/lang/Math", "min", "(II)I"⟩ : MethodName) (head1 (Jvm.Cond.code (⟨"java/lang/Math", "min", "(II)I"⟩ : MethodName) jdk_29_method_69_code 2 (some .int) :: ws) ({ frames := 0, cells := 0, slots := 0, locals := 0 } : Room)) (fun a U => a = #[(.int 0), (.int 2)] ∧ Z.Warmed39 U.vm ∧ U.heap = h0) (fun _ _ _ _ _ => True) (fun _ U o U' => ∃ v L, o = .returned v ∧ own_Q1_0_2 Z  h0 n0 v U'.heap L ∧ FrameEnd U o U' L ({ frames := 0, cells := 0, slots := 0, locals := 0 } : Room).cells ({ frames := 0, cells := 0, slots := 0, locals := 0 } : Room).slots) := by
  refine MetFree.of_bodySF (Jvm.Free.JP.mathPlain rfl (by decide +kernel)) hisR ?_
  intro p e s m args below meth c s₁ Bd hml0 hP hK
  obtain ⟨rfl, hZ, hh⟩ := hP
  have hx := Bd.exec
  have hby := Bd.bytes
  have hml : c.maxLocals = 2 := hml0
  have hown : s.vm.findClass "java/lang/Math" = some m.cls := findClass_of_methodNamed Bd.named
  have hnm := (name_of_methodNamed Bd.named Bd.method).1
  have X0 : Stand p l e ({ frames := 0, cells := 0, slots := 0, locals := 0 } : Room) s m #[(.int 0), (.int 2)] below meth c s₁ [] 0 0 := Stand.of_body Bd
  have e0 : s₁.heap = h0 := by rw [← hh, Bd.state]; rfl
  have N0 := Fr.nil n0
  have Zr : h0.size ≤ h0.size := Nat.le_refl _
  have pre0 : ∀ t, Steps p.tables e below (s₁.setTop (mkF m 0 #[.val (.int 0), .val (.int 2)] [])) t → Steps p.tables e below (s₁.setTop (entryFrame m #[(.int 0), (.int 2)] 2)) t := fun t k => castTop (own_ef1_0_2 m) k
  obtain ⟨fs, hr, hrun, hended, hW, hsame⟩ := X0.leave (v := some (.int 0)) (fun h => by rw [Bd.returns] at h; cases h)
  refine ⟨_, _, pre0 _ (?_), hrun, hended, _, _, rfl, ?_, ⟨_, rfl⟩, hW, hsame.mono (by decide) (by decide)⟩
  · show Steps p.tables e below (s₁.setTop (mkF m 0 #[.val (.int 0), .val (.int 2)] [])) _
    refine XS.iloadN X0.here hx rfl (hb hby own_d1_0) rfl ?_
    refine XS.iloadN X0.here hx rfl (hb hby own_d1_1) rfl ?_
    refine XS.icmpNo X0.here hx rfl (hb hby own_d1_2) rfl (XT.ii_gt_f (by decide : ¬ ((2 : Int32) < (0 : Int32)))) ?_
    refine XS.iloadN X0.here hx rfl (hb hby own_d1_5) rfl ?_
    refine XS.goto X0.here hx rfl (pc0 := 6) (pc' := 10) rfl (hb hby own_d1_6) (by decide) (by decide) ?_
    show Steps p.tables e below (s₁.setTop (mkF m 10 #[.val (.int 0), .val (.int 2)] [(.int 0)])) _
    exact retI X0 hx Bd.returns (hb hby own_d1_10) hr
  · show own_Q1_0_2 Z  h0 n0 _ s₁.heap _
    rw [e0]
    exact ⟨rfl, N0, rfl⟩
theorem own_pd2 : parseMethodDescriptor "(II)I" = some ⟨[.int, .int], some .int⟩ := by decide +kernel
def own_L12 (x0 : Int32) (x1 : Int32) (x2 : Int32) (x3 : Int32) (x4 : Int32) (x5 : Int32) (x6 : Int32) (x7 : Int32) (x8 : Int32) (x9 : Int32) (x10 : Int32) (x11 : Int32) (x12 : Int32) (x13 : Int32) (x14 : Int32) : Array Slot := #[.val (.int x0), .val (.int x1), .val (.int x2), .val (.int x3), .val (.int x4), .val (.int x5), .val (.int x6), .val (.int x7), .val (.int x8), .val (.int x9), .val (.int x10), .val (.int x11), .val (.int x12), .val (.int 0), .val (.int x13), .val (.int x14), .val (.int 0), .unset, .unset, .unset, .unset, .unset, .unset, .unset, .unset, .unset, .unset, .unset]
def own_L13 (x0 : Int32) (x1 : Int32) (x2 : Int32) (x3 : Int32) (x4 : Int32) (x5 : Int32) (x6 : Int32) (x7 : Int32) (x8 : Int32) (x9 : Int32) (x10 : Int32) (x11 : Int32) (x12 : Int32) (x13 : Int32) (x14 : Int32) : Array Slot := #[.val (.int x0), .val (.int x1), .val (.int x2), .val (.int x3), .val (.int x4), .val (.int x5), .val (.int x6), .val (.int x7), .val (.int x8), .val (.int x9), .val (.int x10), .val (.int x11), .val (.int x12), .val (.int 0), .val (.int x13), .val (.int x14), .val (.int 0), .val (.int 0), .unset, .unset, .unset, .unset, .unset, .unset, .unset, .unset, .unset, .unset]
theorem own_pn4 : plainName "com/example/placewright/placewright/solver/RevisedSimplex" = true := by first | (simp [plainName, overriddenIn]; done) | decide +kernel
theorem own_d2_0 : decode prog_29_method_1_code 0 = .ok (.aload_n 0, 1) := by decide +kernel
theorem own_d2_1 : decode prog_29_method_1_code 1 = .ok (.invokespecial 1, 3) := by decide +kernel
theorem own_d2_4 : decode prog_29_method_1_code 4 = .ok (.aload_n 0, 1) := by decide +kernel
theorem own_d2_5 : decode prog_29_method_1_code 5 = .ok (.bipush 16, 2) := by decide +kernel
theorem own_d2_7 : decode prog_29_method_1_code 7 = .ok (.anewarray 9, 3) := by decide +kernel
theorem own_d2_10 : decode prog_29_method_1_code 10 = .ok (.putfield 11, 3) := by decide +kernel
theorem own_d2_13 : decode prog_29_method_1_code 13 = .ok (.aload_n 0, 1) := by decide +kernel
theorem own_d2_14 : decode prog_29_method_1_code 14 = .ok (.bipush 16, 2) := by decide +kernel
theorem own_d2_16 : decode prog_29_method_1_code 16 = .ok (.anewarray 15, 3) := by decide +kernel
theorem own_d2_19 : decode prog_29_method_1_code 19 = .ok (.putfield 17, 3) := by decide +kernel
theorem own_d2_22 : decode prog_29_method_1_code 22 = .ok (.aload_n 0, 1) := by decide +kernel
theorem own_d2_23 : decode prog_29_method_1_code 23 = .ok (.bipush 16, 2) := by decide +kernel
theorem own_d2_25 : decode prog_29_method_1_code 25 = .ok (.newarray .double, 2) := by decide +kernel
theorem own_d2_27 : decode prog_29_method_1_code 27 = .ok (.putfield 21, 3) := by decide +kernel
theorem own_d2_30 : decode prog_29_method_1_code 30 = .ok (.aload_n 0, 1) := by decide +kernel
theorem own_d2_31 : decode prog_29_method_1_code 31 = .ok (.bipush 16, 2) := by decide +kernel
theorem own_d2_33 : decode prog_29_method_1_code 33 = .ok (.newarray .int, 2) := by decide +kernel
theorem own_d2_35 : decode prog_29_method_1_code 35 = .ok (.putfield 24, 3) := by decide +kernel
theorem own_d2_38 : decode prog_29_method_1_code 38 = .ok (.aload_n 0, 1) := by decide +kernel
theorem own_d2_39 : decode prog_29_method_1_code 39 = .ok (.bipush 16, 2) := by decide +kernel
theorem own_d2_41 : decode prog_29_method_1_code 41 = .ok (.newarray .double, 2) := by decide +kernel
theorem own_d2_43 : decode prog_29_method_1_code 43 = .ok (.putfield 27, 3) := by decide +kernel
theorem own_d2_46 : decode prog_29_method_1_code 46 = .ok (.aload_n 0, 1) := by decide +kernel
theorem own_d2_47 : decode prog_29_method_1_code 47 = .ok (.bipush 16, 2) := by decide +kernel
theorem own_d2_49 : decode prog_29_method_1_code 49 = .ok (.newarray .double, 2) := by decide +kernel
theorem own_d2_51 : decode prog_29_method_1_code 51 = .ok (.putfield 30, 3) := by decide +kernel
theorem own_d2_54 : decode prog_29_method_1_code 54 = .ok (.aload_n 0, 1) := by decide +kernel
theorem own_d2_55 : decode prog_29_method_1_code 55 = .ok (.bipush 16, 2) := by decide +kernel
theorem own_d2_57 : decode prog_29_method_1_code 57 = .ok (.anewarray 9, 3) := by decide +kernel
theorem own_d2_60 : decode prog_29_method_1_code 60 = .ok (.putfield 33, 3) := by decide +kernel
theorem own_d2_63 : decode prog_29_method_1_code 63 = .ok (.aload_n 0, 1) := by decide +kernel
theorem own_d2_64 : decode prog_29_method_1_code 64 = .ok (.bipush 16, 2) := by decide +kernel
theorem own_d2_66 : decode prog_29_method_1_code 66 = .ok (.anewarray 15, 3) := by decide +kernel
theorem own_d2_69 : decode prog_29_method_1_code 69 = .ok (.putfield 36, 3) := by decide +kernel
theorem own_d2_72 : decode prog_29_method_1_code 72 = .ok (.aload_n 0, 1) := by decide +kernel
theorem own_d2_73 : decode prog_29_method_1_code 73 = .ok (.bipush 16, 2) := by decide +kernel
theorem own_d2_75 : decode prog_29_method_1_code 75 = .ok (.newarray .int, 2) := by decide +kernel
theorem own_d2_77 : decode prog_29_method_1_code 77 = .ok (.putfield 39, 3) := by decide +kernel
theorem own_d2_80 : decode prog_29_method_1_code 80 = .ok (.aload_n 0, 1) := by decide +kernel
theorem own_d2_81 : decode prog_29_method_1_code 81 = .ok (.bipush 16, 2) := by decide +kernel
theorem own_d2_83 : decode prog_29_method_1_code 83 = .ok (.newarray .int, 2) := by decide +kernel
theorem own_d2_85 : decode prog_29_method_1_code 85 = .ok (.putfield 42, 3) := by decide +kernel
theorem own_d2_88 : decode prog_29_method_1_code 88 = .ok (.aload_n 0, 1) := by decide +kernel
theorem own_d2_89 : decode prog_29_method_1_code 89 = .ok (.bipush 16, 2) := by decide +kernel
theorem own_d2_91 : decode prog_29_method_1_code 91 = .ok (.newarray .boolean, 2) := by decide +kernel
theorem own_d2_93 : decode prog_29_method_1_code 93 = .ok (.putfield 45, 3) := by decide +kernel
theorem own_d2_96 : decode prog_29_method_1_code 96 = .ok (.aload_n 0, 1) := by decide +kernel
theorem own_d2_97 : decode prog_29_method_1_code 97 = .ok (.bipush 16, 2) := by decide +kernel
theorem own_d2_99 : decode prog_29_method_1_code 99 = .ok (.putfield 49, 3) := by decide +kernel
theorem own_d2_102 : decode prog_29_method_1_code 102 = .ok (.aload_n 0, 1) := by decide +kernel
theorem own_d2_103 : decode prog_29_method_1_code 103 = .ok (.bipush 16, 2) := by decide +kernel
theorem own_d2_105 : decode prog_29_method_1_code 105 = .ok (.newarray .double, 2) := by decide +kernel
theorem own_d2_107 : decode prog_29_method_1_code 107 = .ok (.putfield 53, 3) := by decide +kernel
theorem own_d2_110 : decode prog_29_method_1_code 110 = .ok (.aload_n 0, 1) := by decide +kernel
theorem own_d2_111 : decode prog_29_method_1_code 111 = .ok (.bipush 16, 2) := by decide +kernel
theorem own_d2_113 : decode prog_29_method_1_code 113 = .ok (.newarray .int, 2) := by decide +kernel
theorem own_d2_115 : decode prog_29_method_1_code 115 = .ok (.putfield 56, 3) := by decide +kernel
theorem own_d2_118 : decode prog_29_method_1_code 118 = .ok (.aload_n 0, 1) := by decide +kernel
theorem own_d2_119 : decode prog_29_method_1_code 119 = .ok (.bipush 16, 2) := by decide +kernel
theorem own_d2_121 : decode prog_29_method_1_code 121 = .ok (.newarray .double, 2) := by decide +kernel
theorem own_d2_123 : decode prog_29_method_1_code 123 = .ok (.putfield 59, 3) := by decide +kernel
theorem own_d2_126 : decode prog_29_method_1_code 126 = .ok (.aload_n 0, 1) := by decide +kernel
theorem own_d2_127 : decode prog_29_method_1_code 127 = .ok (.bipush 16, 2) := by decide +kernel
theorem own_d2_129 : decode prog_29_method_1_code 129 = .ok (.newarray .double, 2) := by decide +kernel
theorem own_d2_131 : decode prog_29_method_1_code 131 = .ok (.putfield 62, 3) := by decide +kernel
theorem own_d2_134 : decode prog_29_method_1_code 134 = .ok (.aload_n 0, 1) := by decide +kernel
theorem own_d2_135 : decode prog_29_method_1_code 135 = .ok (.new 65, 3) := by decide +kernel
theorem own_d2_138 : decode prog_29_method_1_code 138 = .ok (.dup, 1) := by decide +kernel
theorem own_d2_139 : decode prog_29_method_1_code 139 = .ok (.invokespecial 67, 3) := by decide +kernel
theorem own_d2_142 : decode prog_29_method_1_code 142 = .ok (.putfield 68, 3) := by decide +kernel
theorem own_d2_145 : decode prog_29_method_1_code 145 = .ok (.aload_n 0, 1) := by decide +kernel
theorem own_d2_146 : decode prog_29_method_1_code 146 = .ok (.iconst 1, 1) := by decide +kernel
theorem own_d2_147 : decode prog_29_method_1_code 147 = .ok (.putfield 72, 3) := by decide +kernel
theorem own_d2_150 : decode prog_29_method_1_code 150 = .ok (.return_, 1) := by decide +kernel
theorem own_ef2a (m : MethodId) (tt : Addr) : entryFrame m #[(.ref tt)] 1 = mkF m 0 #[.val (.ref tt)] [] := by first | (simp [entryFrame, mkF, argsToLocals, Value.category]; done) | rfl
def own_Q2a (Z : State) (tt : Addr) (aA : Nat → Addr) (aK : Nat → ClassId) (aF : Nat → Nat → Value) (aV : Nat → Value) (h0 : Heap) (n0 : Nat) (v : Option Value) (h : Heap) (L : List Loc) : Prop := ∃ (aA : Nat → Addr) (aK : Nat → ClassId) (aF : Nat → Nat → Value) (aV : Nat → Value), v = none ∧ Fr n0 L ∧ own_R 15 Z n0 h tt aA aK aF aV [] ∧ aF 10 0 = .int 0 ∧ aF 10 1 = .int 0 ∧ aF 10 2 = .int 0 ∧ aF 10 3 = .int 0 ∧ aV 15 = .int 0 ∧ aV 16 = .int 0 ∧ aV 17 = .int 0 ∧ aV 18 = .int 16 ∧ aV 19 = .int 0
set_option maxRecDepth 65536 in
set_option maxHeartbeats 40000000 in
theorem own_rm2a (l : Launch) (Z : State) (a0 : Array Value) (hw : ∀ d ∈ tables_1, d.before a0 Z = true) (ws : List Jvm.Cond) (tt : Addr) (aA : Nat → Addr) (aK : Nat → ClassId) (aF : Nat → Nat → Value) (aV : Nat → Value) (h0 : Heap) (n0 : Nat) (Z0 : n0 ≤ h0.size) (B0 : own_R 0 Z n0 h0 tt aA aK aF aV []) (vt_15 : aV 15 = (.int 0)) (vt_16 : aV 16 = (.int 0)) (vt_17 : aV 17 = (.int 0)) (vt_19 : aV 19 = (.int 0)) :
    MetFree l (⟨"com/example/placewright/placewright/solver/RevisedSimplex", "<init>", "()V"⟩ : MethodName) (head1 (Jvm.Cond.code (⟨"com/example/placewright/placewright/solver/RevisedSimplex", "<init>", "()V"⟩ : MethodName) prog_29_method_1_code 1 none :: ws) ({ frames := 3, cells := 40, slots := 339, locals := 42 } : Room)) (fun a U => a = #[(.ref tt)] ∧ Z.Warmed39 U.vm ∧ U.heap = h0) (fun _ _ _ _ _ => True) (fun _ U o U' => ∃ v L, o = .returned v ∧ own_Q2a Z tt aA aK aF aV h0 n0 v U'.heap L ∧ FrameEnd U o U' L ({ frames := 3, cells := 40, slots := 339, locals := 42 } : Room).cells ({ frames := 3, cells := 40, slots := 339, locals := 42 } : Room).slots) := by
  refine MetFree.of_bodySF (plainFor_of_name own_pn4) hisR ?_
  intro p e s m args below meth c s₁ Bd hml0 hP hK
  obtain ⟨rfl, hZ, hh⟩ := hP
  have hx := Bd.exec
  have hby := Bd.bytes
  have hml : c.maxLocals = 1 := hml0
  have hown : s.vm.findClass "com/example/placewright/placewright/solver/RevisedSimplex" = some m.cls := findClass_of_methodNamed Bd.named
  have hnm := (name_of_methodNamed Bd.named Bd.method).1
  have X0 : Stand p l e ({ frames := 3, cells := 40, slots := 339, locals := 42 } : Room) s m #[(.ref tt)] below meth c s₁ [] 0 0 := Stand.of_body Bd
  have e0 : s₁.heap = h0 := by rw [← hh, Bd.state]; rfl
  have N0 := Fr.nil n0
  have Zr : h0.size ≤ h0.size := Nat.le_refl _
  have pre0 : ∀ t, Steps p.tables e below (s₁.setTop (mkF m 0 #[.val (.ref tt)] [])) t → Steps p.tables e below (s₁.setTop (entryFrame m #[(.ref tt)] 1)) t := fun t k => castTop (own_ef2a m tt) k
  obtain ⟨Tn1, Xn1, en1, stn1⟩ := initO X0 hx hZ hown (own_W hw 11 rfl) (own_W hw 12 rfl) (own_W hw 13 rfl) e0 (g := (mkF m 1 #[.val (.ref tt)] [(.ref tt)])) rfl (by rw [hml]; rfl) rfl (hb hby own_d2_1) (by decide) (W := 0) (by show 2 * 0 + _ ≤ _; exact Nat.le_of_eq rfl) (by decide)
  obtain ⟨Tn2, hn2, bn2, kn2, Xn2, en2, Bn2, stn2⟩ := own_nr Xn1 hx hZ hown .int (by decide) (own_W hw 14 rfl) (own_W hw 15 rfl) en1 B0 (fun _ q => q) (by decide) (g := (mkF m 7 #[.val (.ref tt)] [(.int 16), (.ref tt)])) rfl (hb hby own_d2_7) rfl (by decide) (cap := 16) (by decide) (by decide) (by decide) (by decide)
  obtain ⟨Tn3, hn3, Ln3, Xn3, en3, Bn3, Nn3, stn3⟩ := own_pa Xn2 hx hZ hown (own_W hw 16 rfl) en2 Bn2 N0 (own_sS hw) (by decide) (Or.inl (own_W hw 17 rfl)) (own_W hw 6 rfl) rfl rfl (g := (mkF m 10 #[.val (.ref tt)] [(.ref bn2), (.ref tt)])) rfl rfl (hb hby own_d2_10)
  obtain ⟨Tn4, hn4, bn4, kn4, Xn4, en4, Bn4, stn4⟩ := own_nr Xn3 hx hZ hown .double (by decide) (own_W hw 18 rfl) (own_W hw 19 rfl) en3 Bn3 (fun _ q => q) (by decide) (g := (mkF m 16 #[.val (.ref tt)] [(.int 16), (.ref tt)])) rfl (hb hby own_d2_16) rfl (by decide) (cap := 16) (by decide) (by decide) (by decide) (by decide)
  obtain ⟨Tn5, hn5, Ln5, Xn5, en5, Bn5, Nn5, stn5⟩ := own_pa Xn4 hx hZ hown (own_W hw 20 rfl) en4 Bn4 Nn3 (own_sS hw) (by decide) (Or.inl (own_W hw 21 rfl)) (own_W hw 6 rfl) rfl rfl (g := (mkF m 19 #[.val (.ref tt)] [(.ref bn4), (.ref tt)])) rfl rfl (hb hby own_d2_19)
  obtain ⟨Tn6, hn6, bn6, kn6, Xn6, en6, Bn6, stn6⟩ := own_na Xn5 hx hZ (own_W hw 22 rfl) en5 Bn5 .double rfl (fun _ => trivial) (by decide) (g := (mkF m 25 #[.val (.ref tt)] [(.int 16), (.ref tt)])) rfl (hb hby own_d2_25) rfl (by decide) (cap := 16) (by decide) (by decide) (by decide) (by decide)
  obtain ⟨Tn7, hn7, Ln7, Xn7, en7, Bn7, Nn7, stn7⟩ := own_pa Xn6 hx hZ hown (own_W hw 23 rfl) en6 Bn6 Nn5 (own_sS hw) (by decide) (Or.inl (own_W hw 24 rfl)) (own_W hw 6 rfl) rfl rfl (g := (mkF m 27 #[.val (.ref tt)] [(.ref bn6), (.ref tt)])) rfl rfl (hb hby own_d2_27)
  obtain ⟨Tn8, hn8, bn8, kn8, Xn8, en8, Bn8, stn8⟩ := own_na Xn7 hx hZ (own_W hw 25 rfl) en7 Bn7 .int rfl (fun _ => trivial) (by decide) (g := (mkF m 33 #[.val (.ref tt)] [(.int 16), (.ref tt)])) rfl (hb hby own_d2_33) rfl (by decide) (cap := 16) (by decide) (by decide) (by decide) (by decide)
  obtain ⟨Tn9, hn9, Ln9, Xn9, en9, Bn9, Nn9, stn9⟩ := own_pa Xn8 hx hZ hown (own_W hw 26 rfl) en8 Bn8 Nn7 (own_sS hw) (by decide) (Or.inl (own_W hw 27 rfl)) (own_W hw 6 rfl) rfl rfl (g := (mkF m 35 #[.val (.ref tt)] [(.ref bn8), (.ref tt)])) rfl rfl (hb hby own_d2_35)
  obtain ⟨Tn10, hn10, bn10, kn10, Xn10, en10, Bn10, stn10⟩ := own_na Xn9 hx hZ (own_W hw 22 rfl) en9 Bn9 .double rfl (fun _ => trivial) (by decide) (g := (mkF m 41 #[.val (.ref tt)] [(.int 16), (.ref tt)])) rfl (hb hby own_d2_41) rfl (by decide) (cap := 16) (by decide) (by decide) (by decide) (by decide)
  obtain ⟨Tn11, hn11, Ln11, Xn11, en11, Bn11, Nn11, stn11⟩ := own_pa Xn10 hx hZ hown (own_W hw 28 rfl) en10 Bn10 Nn9 (own_sS hw) (by decide) (Or.inl (own_W hw 29 rfl)) (own_W hw 6 rfl) rfl rfl (g := (mkF m 43 #[.val (.ref tt)] [(.ref bn10), (.ref tt)])) rfl rfl (hb hby own_d2_43)
  obtain ⟨Tn12, hn12, bn12, kn12, Xn12, en12, Bn12, stn12⟩ := own_na Xn11 hx hZ (own_W hw 22 rfl) en11 Bn11 .double rfl (fun _ => trivial) (by decide) (g := (mkF m 49 #[.val (.ref tt)] [(.int 16), (.ref tt)])) rfl (hb hby own_d2_49) rfl (by decide) (cap := 16) (by decide) (by decide) (by decide) (by decide)
  obtain ⟨Tn13, hn13, Ln13, Xn13, en13, Bn13, Nn13, stn13⟩ := own_pa Xn12 hx hZ hown (own_W hw 30 rfl) en12 Bn12 Nn11 (own_sS hw) (by decide) (Or.inl (own_W hw 31 rfl)) (own_W hw 6 rfl) rfl rfl (g := (mkF m 51 #[.val (.ref tt)] [(.ref bn12), (.ref tt)])) rfl rfl (hb hby own_d2_51)
  obtain ⟨Tn14, hn14, bn14, kn14, Xn14, en14, Bn14, stn14⟩ := own_nr Xn13 hx hZ hown .int (by decide) (own_W hw 14 rfl) (own_W hw 15 rfl) en13 Bn13 (fun _ q => q) (by decide) (g := (mkF m 57 #[.val (.ref tt)] [(.int 16), (.ref tt)])) rfl (hb hby own_d2_57) rfl (by decide) (cap := 16) (by decide) (by decide) (by decide) (by decide)
  obtain ⟨Tn15, hn15, Ln15, Xn15, en15, Bn15, Nn15, stn15⟩ := own_pa Xn14 hx hZ hown (own_W hw 32 rfl) en14 Bn14 Nn13 (own_sS hw) (by decide) (Or.inl (own_W hw 33 rfl)) (own_W hw 6 rfl) rfl rfl (g := (mkF m 60 #[.val (.ref tt)] [(.ref bn14), (.ref tt)])) rfl rfl (hb hby own_d2_60)
  obtain ⟨Tn16, hn16, bn16, kn16, Xn16, en16, Bn16, stn16⟩ := own_nr Xn15 hx hZ hown .double (by decide) (own_W hw 18 rfl) (own_W hw 19 rfl) en15 Bn15 (fun _ q => q) (by decide) (g := (mkF m 66 #[.val (.ref tt)] [(.int 16), (.ref tt)])) rfl (hb hby own_d2_66) rfl (by decide) (cap := 16) (by decide) (by decide) (by decide) (by decide)
  obtain ⟨Tn17, hn17, Ln17, Xn17, en17, Bn17, Nn17, stn17⟩ := own_pa Xn16 hx hZ hown (own_W hw 34 rfl) en16 Bn16 Nn15 (own_sS hw) (by decide) (Or.inl (own_W hw 35 rfl)) (own_W hw 6 rfl) rfl rfl (g := (mkF m 69 #[.val (.ref tt)] [(.ref bn16), (.ref tt)])) rfl rfl (hb hby own_d2_69)
  obtain ⟨Tn18, hn18, bn18, kn18, Xn18, en18, Bn18, stn18⟩ := own_na Xn17 hx hZ (own_W hw 25 rfl) en17 Bn17 .int rfl (fun _ => trivial) (by decide) (g := (mkF m 75 #[.val (.ref tt)] [(.int 16), (.ref tt)])) rfl (hb hby own_d2_75) rfl (by decide) (cap := 16) (by decide) (by decide) (by decide) (by decide)
  obtain ⟨Tn19, hn19, Ln19, Xn19, en19, Bn19, Nn19, stn19⟩ := own_pa Xn18 hx hZ hown (own_W hw 36 rfl) en18 Bn18 Nn17 (own_sS hw) (by decide) (Or.inl (own_W hw 37 rfl)) (own_W hw 6 rfl) rfl rfl (g := (mkF m 77 #[.val (.ref tt)] [(.ref bn18), (.ref tt)])) rfl rfl (hb hby own_d2_77)
  obtain ⟨Tn20, hn20, bn20, kn20, Xn20, en20, Bn20, stn20⟩ := own_na Xn19 hx hZ (own_W hw 25 rfl) en19 Bn19 .int rfl (fun _ => trivial) (by decide) (g := (mkF m 83 #[.val (.ref tt)] [(.int 16), (.ref tt)])) rfl (hb hby own_d2_83) rfl (by decide) (cap := 16) (by decide) (by decide) (by decide) (by decide)
  obtain ⟨Tn21, hn21, Ln21, Xn21, en21, Bn21, Nn21, stn21⟩ := own_pa Xn20 hx hZ hown (own_W hw 38 rfl) en20 Bn20 Nn19 (own_sS hw) (by decide) (Or.inl (own_W hw 39 rfl)) (own_W hw 6 rfl) rfl rfl (g := (mkF m 85 #[.val (.ref tt)] [(.ref bn20), (.ref tt)])) rfl rfl (hb hby own_d2_85)
  obtain ⟨Tn22, hn22, bn22, kn22, Xn22, en22, Bn22, stn22⟩ := own_na Xn21 hx hZ (own_W hw 40 rfl) en21 Bn21 .boolean rfl (fun _ => trivial) (by decide) (g := (mkF m 91 #[.val (.ref tt)] [(.int 16), (.ref tt)])) rfl (hb hby own_d2_91) rfl (by decide) (cap := 16) (by decide) (by decide) (by decide) (by decide)
  obtain ⟨Tn23, hn23, Ln23, Xn23, en23, Bn23, Nn23, stn23⟩ := own_pa Xn22 hx hZ hown (own_W hw 41 rfl) en22 Bn22 Nn21 (own_sS hw) (by decide) (Or.inl (own_W hw 42 rfl)) (own_W hw 6 rfl) rfl rfl (g := (mkF m 93 #[.val (.ref tt)] [(.ref bn22), (.ref tt)])) rfl rfl (hb hby own_d2_93)
  obtain ⟨Tn24, hn24, Ln24, Xn24, en24, Bn24, Nn24, stn24⟩ := own_pu Xn23 hx hZ hown 18 (own_W hw 43 rfl) en23 Bn23 Nn23 (own_sS hw) (by decide) (by decide) (Or.inl (own_W hw 44 rfl)) (own_W hw 6 rfl) (v' := (.int 16)) rfl rfl (g := (mkF m 99 #[.val (.ref tt)] [(.int 16), (.ref tt)])) rfl rfl (hb hby own_d2_99)
  obtain ⟨Tn25, hn25, bn25, kn25, Xn25, en25, Bn25, stn25⟩ := own_na Xn24 hx hZ (own_W hw 22 rfl) en24 Bn24 .double rfl (fun _ => trivial) (by decide) (g := (mkF m 105 #[.val (.ref tt)] [(.int 16), (.ref tt)])) rfl (hb hby own_d2_105) rfl (by decide) (cap := 16) (by decide) (by decide) (by decide) (by decide)
  obtain ⟨Tn26, hn26, Ln26, Xn26, en26, Bn26, Nn26, stn26⟩ := own_pa Xn25 hx hZ hown (own_W hw 45 rfl) en25 Bn25 Nn24 (own_sS hw) (by decide) (Or.inl (own_W hw 46 rfl)) (own_W hw 6 rfl) rfl rfl (g := (mkF m 107 #[.val (.ref tt)] [(.ref bn25), (.ref tt)])) rfl rfl (hb hby own_d2_107)
  obtain ⟨Tn27, hn27, bn27, kn27, Xn27, en27, Bn27, stn27⟩ := own_na Xn26 hx hZ (own_W hw 25 rfl) en26 Bn26 .int rfl (fun _ => trivial) (by decide) (g := (mkF m 113 #[.val (.ref tt)] [(.int 16), (.ref tt)])) rfl (hb hby own_d2_113) rfl (by decide) (cap := 16) (by decide) (by decide) (by decide) (by decide)
  obtain ⟨Tn28, hn28, Ln28, Xn28, en28, Bn28, Nn28, stn28⟩ := own_pa Xn27 hx hZ hown (own_W hw 47 rfl) en27 Bn27 Nn26 (own_sS hw) (by decide) (Or.inl (own_W hw 48 rfl)) (own_W hw 6 rfl) rfl rfl (g := (mkF m 115 #[.val (.ref tt)] [(.ref bn27), (.ref tt)])) rfl rfl (hb hby own_d2_115)
  obtain ⟨Tn29, hn29, bn29, kn29, Xn29, en29, Bn29, stn29⟩ := own_na Xn28 hx hZ (own_W hw 22 rfl) en28 Bn28 .double rfl (fun _ => trivial) (by decide) (g := (mkF m 121 #[.val (.ref tt)] [(.int 16), (.ref tt)])) rfl (hb hby own_d2_121) rfl (by decide) (cap := 16) (by decide) (by decide) (by decide) (by decide)
  obtain ⟨Tn30, hn30, Ln30, Xn30, en30, Bn30, Nn30, stn30⟩ := own_pa Xn29 hx hZ hown (own_W hw 49 rfl) en29 Bn29 Nn28 (own_sS hw) (by decide) (Or.inl (own_W hw 50 rfl)) (own_W hw 6 rfl) rfl rfl (g := (mkF m 123 #[.val (.ref tt)] [(.ref bn29), (.ref tt)])) rfl rfl (hb hby own_d2_123)
  obtain ⟨Tn31, hn31, bn31, kn31, Xn31, en31, Bn31, stn31⟩ := own_na Xn30 hx hZ (own_W hw 22 rfl) en30 Bn30 .double rfl (fun _ => trivial) (by decide) (g := (mkF m 129 #[.val (.ref tt)] [(.int 16), (.ref tt)])) rfl (hb hby own_d2_129) rfl (by decide) (cap := 16) (by decide) (by decide) (by decide) (by decide)
  obtain ⟨Tn32, hn32, Ln32, Xn32, en32, Bn32, Nn32, stn32⟩ := own_pa Xn31 hx hZ hown (own_W hw 51 rfl) en31 Bn31 Nn30 (own_sS hw) (by decide) (Or.inl (own_W hw 52 rfl)) (own_W hw 6 rfl) rfl rfl (g := (mkF m 131 #[.val (.ref tt)] [(.ref bn31), (.ref tt)])) rfl rfl (hb hby own_d2_131)
  obtain ⟨Tn33, hn33, Xn33, en33, En33, An33, Dn33, -, stn33⟩ := newO Xn32 hx hZ hown (own_W hw 53 rfl) (own_W hw 54 rfl) (own_W hw 55 rfl) en32 (g := (mkF m 135 #[.val (.ref tt)] [(.ref tt)])) rfl (hb hby own_d2_135) (by decide) (by decide)
  obtain ⟨bn33, gn33⟩ : ∃ z, z = hn32.size := ⟨_, rfl⟩
  rw [← gn33] at An33 Dn33 stn33
  have g_bn33 : n0 ≤ bn33 := Nat.le_trans (own_R_sz Bn32) (Nat.le_of_eq gn33.symm)
  have F_stepRow_bn33 : Fld Z hn33 bn33 "com/example/placewright/placewright/solver/BasisFactorization" "stepRow" "[I" .null := Dn33 (Or.inl (own_W hw 61 rfl)) (ty := (.array .int)) (by decide)
  have F_stepPosition_bn33 : Fld Z hn33 bn33 "com/example/placewright/placewright/solver/BasisFactorization" "stepPosition" "[I" .null := Dn33 (Or.inl (own_W hw 63 rfl)) (ty := (.array .int)) (by decide)
  have F_diagonal_bn33 : Fld Z hn33 bn33 "com/example/placewright/placewright/solver/BasisFactorization" "diagonal" "[D" .null := Dn33 (Or.inl (own_W hw 65 rfl)) (ty := (.array .double)) (by decide)
  have F_stepOfPosition_bn33 : Fld Z hn33 bn33 "com/example/placewright/placewright/solver/BasisFactorization" "stepOfPosition" "[I" .null := Dn33 (Or.inl (own_W hw 67 rfl)) (ty := (.array .int)) (by decide)
  have F_lower_bn33 : Fld Z hn33 bn33 "com/example/placewright/placewright/solver/BasisFactorization" "lower" "Lcom/example/placewright/placewright/solver/BasisFactorization$Entries;" .null := Dn33 (Or.inr (own_W hw 82 rfl)) (ty := (.object "com/example/placewright/placewright/solver/BasisFactorization$Entries")) (by decide)
  have F_lowerRow_bn33 : Fld Z hn33 bn33 "com/example/placewright/placewright/solver/BasisFactorization" "lowerRow" "[I" .null := Dn33 (Or.inl (own_W hw 84 rfl)) (ty := (.array .int)) (by decide)
  have F_upperByRow_bn33 : Fld Z hn33 bn33 "com/example/placewright/placewright/solver/BasisFactorization" "upperByRow" "Lcom/example/placewright/placewright/solver/BasisFactorization$Lists;" .null := Dn33 (Or.inl (own_W hw 101 rfl)) (ty := (.object "com/example/placewright/placewright/solver/BasisFactorization$Lists")) (by decide)
  have F_upperByPosition_bn33 : Fld Z hn33 bn33 "com/example/placewright/placewright/solver/BasisFactorization" "upperByPosition" "Lcom/example/placewright/placewright/solver/BasisFactorization$Lists;" .null := Dn33 (Or.inl (own_W hw 103 rfl)) (ty := (.object "com/example/placewright/placewright/solver/BasisFactorization$Lists")) (by decide)
  have F_rowEtas_bn33 : Fld Z hn33 bn33 "com/example/placewright/placewright/solver/BasisFactorization" "rowEtas" "Lcom/example/placewright/placewright/solver/BasisFactorization$Entries;" .null := Dn33 (Or.inr (own_W hw 105 rfl)) (ty := (.object "com/example/placewright/placewright/solver/BasisFactorization$Entries")) (by decide)
  have F_rowEtaRow_bn33 : Fld Z hn33 bn33 "com/example/placewright/placewright/solver/BasisFactorization" "rowEtaRow" "[I" .null := Dn33 (Or.inl (own_W hw 107 rfl)) (ty := (.array .int)) (by decide)
  have F_byRow_bn33 : Fld Z hn33 bn33 "com/example/placewright/placewright/solver/BasisFactorization" "byRow" "[D" .null := Dn33 (Or.inl (own_W hw 109 rfl)) (ty := (.array .double)) (by decide)
  have F_byPosition_bn33 : Fld Z hn33 bn33 "com/example/placewright/placewright/solver/BasisFactorization" "byPosition" "[D" .null := Dn33 (Or.inl (own_W hw 111 rfl)) (ty := (.array .double)) (by decide)
  have nxbn33 := own_R_out Bn32 (Nat.le_of_eq gn33.symm)
  have B34 := own_R_ext Bn32 En33
  obtain ⟨_, _, ⟨Tk35, Lk35, kk35, nk35⟩, -, Xk35, ⟨Lck35, hQk35, lk35, yk35, zk35⟩, stk35⟩ := Xn33.specialBack hx (y := (⟨"com/example/placewright/placewright/solver/BasisFactorization", "<init>", "()V"⟩ : MethodName)) rfl hown (mvT hZ (own_W hw 56 rfl)) (mvT hZ (own_W hw 57 rfl)) (mvT hZ (own_W hw 58 rfl)) (by decide) (backOf (W := 2) (own_rm4 l Z a0 hw [] bn33 .null .null .null .null .null .null .null .null .null .null .null .null hn33 n0 (own_R_sz B34) An33 F_stepRow_bn33 g_bn33 F_stepPosition_bn33 F_diagonal_bn33 F_stepOfPosition_bn33 F_lower_bn33 F_lowerRow_bn33 F_upperByRow_bn33 F_upperByPosition_bn33 F_rowEtas_bn33 F_rowEtaRow_bn33 F_byRow_bn33 F_byPosition_bn33) hZ (own_W hw 58 rfl) (own_W hw 55 rfl) (by decide) (by decide)) (g := (mkF m 139 #[.val (.ref tt)] [(.ref bn33), (.ref bn33), (.ref tt)])) rfl (by rw [hml]; rfl) (Steps.refl _) (a := bn33) (argsL := []) (rest := [(.ref bn33), (.ref tt)]) (lenOf own_pd0 rfl) rfl (by show 2 * 0 + _ ≤ _; exact Nat.le_of_eq rfl) (hb hby own_d2_139) (fun _ _ => ⟨rfl, en33, (by decide : 16 + 24 ≤ _), (by decide : 255 + 84 ≤ _)⟩)
  dsimp only [Pt.U, Pt.locs, Pt.cells, Pt.slots] at Xk35 lk35 yk35 zk35 stk35 hQk35
  replace lk35 := lk35.symm; replace yk35 := yk35.symm; replace zk35 := zk35.symm; subst lk35 yk35 zk35
  obtain ⟨rfl, Nk35q, Kk35, Qk35_0⟩ := hQk35
  have Nk35 := Fr.app Nn32 Nk35q
  have B36 := own_R_keep B34 Kk35 (allS nxbn33 all0)
  obtain ⟨Tn37, hn37, Ln37, Xn37, en37, Bn37, Nn37, stn37⟩ := own_pu Xk35 hx hZ hown 21 (own_W hw 112 rfl) rfl B36 Nk35 (own_sS hw) (by decide) (by decide) (Or.inr ⟨(own_W hw 113 rfl), rfl, hnm⟩) (own_W hw 6 rfl) (v' := (.ref bn33)) rfl rfl (g := (mkF m 142 #[.val (.ref tt)] [(.ref bn33), (.ref tt)])) rfl rfl (hb hby own_d2_142)
  obtain ⟨Tn38, hn38, Ln38, Xn38, en38, Bn38, Nn38, stn38⟩ := own_pu Xn37 hx hZ hown 20 (own_W hw 114 rfl) en37 Bn37 Nn37 (own_sS hw) (by decide) (by decide) (Or.inl (own_W hw 115 rfl)) (own_W hw 6 rfl) (v' := (.int 1)) rfl rfl (g := (mkF m 147 #[.val (.ref tt)] [(.int 1), (.ref tt)])) rfl rfl (hb hby own_d2_147)
  obtain ⟨fs, hr, hrun, hended, hW, hsame⟩ := Xn38.leave (v := none) (fun _ => rfl)
  refine ⟨_, _, pre0 _ (?_), hrun, hended, _, _, rfl, ?_, ⟨_, rfl⟩, hW, hsame.mono (by decide) (by decide)⟩
  · show Steps p.tables e below (s₁.setTop (mkF m 0 #[.val (.ref tt)] [])) _
    refine XS.aloadN X0.here hx rfl (hb hby own_d2_0) rfl rfl ?_
    refine stn1 _ ?_
    refine XS.aloadN Xn1.here hx rfl (hb hby own_d2_4) rfl rfl ?_
    refine XS.bipush Xn1.here hx rfl (hb hby own_d2_5) ?_
    refine stn2 _ ?_
    show Steps p.tables e below (Tn2.setTop (mkF m 10 #[.val (.ref tt)] [(.ref bn2), (.ref tt)])) _
    refine stn3 _ ?_
    refine XS.aloadN Xn3.here hx rfl (hb hby own_d2_13) rfl rfl ?_
    refine XS.bipush Xn3.here hx rfl (hb hby own_d2_14) ?_
    refine stn4 _ ?_
    show Steps p.tables e below (Tn4.setTop (mkF m 19 #[.val (.ref tt)] [(.ref bn4), (.ref tt)])) _
    refine stn5 _ ?_
    refine XS.aloadN Xn5.here hx rfl (hb hby own_d2_22) rfl rfl ?_
    refine XS.bipush Xn5.here hx rfl (hb hby own_d2_23) ?_
    refine stn6 _ ?_
    show Steps p.tables e below (Tn6.setTop (mkF m 27 #[.val (.ref tt)] [(.ref bn6), (.ref tt)])) _
    refine stn7 _ ?_
    refine XS.aloadN Xn7.here hx rfl (hb hby own_d2_30) rfl rfl ?_
    refine XS.bipush Xn7.here hx rfl (hb hby own_d2_31) ?_
    refine stn8 _ ?_
    show Steps p.tables e below (Tn8.setTop (mkF m 35 #[.val (.ref tt)] [(.ref bn8), (.ref tt)])) _
    refine stn9 _ ?_
    refine XS.aloadN Xn9.here hx rfl (hb hby own_d2_38) rfl rfl ?_
    refine XS.bipush Xn9.here hx rfl (hb hby own_d2_39) ?_
    refine stn10 _ ?_
    show Steps p.tables e below (Tn10.setTop (mkF m 43 #[.val (.ref tt)] [(.ref bn10), (.ref tt)])) _
    refine stn11 _ ?_
    refine XS.aloadN Xn11.here hx rfl (hb hby own_d2_46) rfl rfl ?_
    refine XS.bipush Xn11.here hx rfl (hb hby own_d2_47) ?_
    refine stn12 _ ?_
    show Steps p.tables e below (Tn12.setTop (mkF m 51 #[.val (.ref tt)] [(.ref bn12), (.ref tt)])) _
    refine stn13 _ ?_
    refine XS.aloadN Xn13.here hx rfl (hb hby own_d2_54) rfl rfl ?_
    refine XS.bipush Xn13.here hx rfl (hb hby own_d2_55) ?_
    refine stn14 _ ?_
    show Steps p.tables e below (Tn14.setTop (mkF m 60 #[.val (.ref tt)] [(.ref bn14), (.ref tt)])) _
    refine stn15 _ ?_
    refine XS.aloadN Xn15.here hx rfl (hb hby own_d2_63) rfl rfl ?_
    refine XS.bipush Xn15.here hx rfl (hb hby own_d2_64) ?_
    refine stn16 _ ?_
    show Steps p.tables e below (Tn16.setTop (mkF m 69 #[.val (.ref tt)] [(.ref bn16), (.ref tt)])) _
    refine stn17 _ ?_
    refine XS.aloadN Xn17.here hx rfl (hb hby own_d2_72) rfl rfl ?_
    refine XS.bipush Xn17.here hx rfl (hb hby own_d2_73) ?_
    refine stn18 _ ?_
    show Steps p.tables e below (Tn18.setTop (mkF m 77 #[.val (.ref tt)] [(.ref bn18), (.ref tt)])) _
    refine stn19 _ ?_
    refine XS.aloadN Xn19.here hx rfl (hb hby own_d2_80) rfl rfl ?_
    refine XS.bipush Xn19.here hx rfl (hb hby own_d2_81) ?_
    refine stn20 _ ?_
    show Steps p.tables e below (Tn20.setTop (mkF m 85 #[.val (.ref tt)] [(.ref bn20), (.ref tt)])) _
    refine stn21 _ ?_
    refine XS.aloadN Xn21.here hx rfl (hb hby own_d2_88) rfl rfl ?_
    refine XS.bipush Xn21.here hx rfl (hb hby own_d2_89) ?_
    refine stn22 _ ?_
    show Steps p.tables e below (Tn22.setTop (mkF m 93 #[.val (.ref tt)] [(.ref bn22), (.ref tt)])) _
    refine stn23 _ ?_
    refine XS.aloadN Xn23.here hx rfl (hb hby own_d2_96) rfl rfl ?_
    refine XS.bipush Xn23.here hx rfl (hb hby own_d2_97) ?_
    refine stn24 _ ?_
    show Steps p.tables e below (Tn24.setTop (mkF m 102 #[.val (.ref tt)] [])) _
    refine XS.aloadN Xn24.here hx rfl (hb hby own_d2_102) rfl rfl ?_
    refine XS.bipush Xn24.here hx rfl (hb hby own_d2_103) ?_
    refine stn25 _ ?_
    show Steps p.tables e below (Tn25.setTop (mkF m 107 #[.val (.ref tt)] [(.ref bn25), (.ref tt)])) _
    refine stn26 _ ?_
    refine XS.aloadN Xn26.here hx rfl (hb hby own_d2_110) rfl rfl ?_
    refine XS.bipush Xn26.here hx rfl (hb hby own_d2_111) ?_
    refine stn27 _ ?_
    show Steps p.tables e below (Tn27.setTop (mkF m 115 #[.val (.ref tt)] [(.ref bn27), (.ref tt)])) _
    refine stn28 _ ?_
    refine XS.aloadN Xn28.here hx rfl (hb hby own_d2_118) rfl rfl ?_
    refine XS.bipush Xn28.here hx rfl (hb hby own_d2_119) ?_
    refine stn29 _ ?_
    show Steps p.tables e below (Tn29.setTop (mkF m 123 #[.val (.ref tt)] [(.ref bn29), (.ref tt)])) _
    refine stn30 _ ?_
    refine XS.aloadN Xn30.here hx rfl (hb hby own_d2_126) rfl rfl ?_
    refine XS.bipush Xn30.here hx rfl (hb hby own_d2_127) ?_
    refine stn31 _ ?_
    show Steps p.tables e below (Tn31.setTop (mkF m 131 #[.val (.ref tt)] [(.ref bn31), (.ref tt)])) _
    refine stn32 _ ?_
    refine XS.aloadN Xn32.here hx rfl (hb hby own_d2_134) rfl rfl ?_
    refine stn33 _ ?_
    show Steps p.tables e below (Tn33.setTop (mkF m 138 #[.val (.ref tt)] [(.ref bn33), (.ref tt)])) _
    refine XS.dup Xn33.here hx rfl (hb hby own_d2_138) rfl rfl ?_
    refine stk35.trans ?_
    refine stn37 _ ?_
    show Steps p.tables e below (Tn37.setTop (mkF m 145 #[.val (.ref tt)] [])) _
    refine XS.aloadN Xn37.here hx rfl (hb hby own_d2_145) rfl rfl ?_
    refine XS.iconst Xn37.here hx rfl (hb hby own_d2_146) ?_
    refine stn38 _ ?_
    show Steps p.tables e below (Tn38.setTop (mkF m 150 #[.val (.ref tt)] [])) _
    exact Xn38.returnOut hx Bd.returns (hb hby own_d2_150) hr
  · show own_Q2a Z tt aA aK aF aV h0 n0 _ Tn38.heap _
    rw [en38]
    exact ⟨_, _, _, _, rfl, Nn38, Bn38, rfl, rfl, rfl, rfl, vt_15, vt_16, vt_17, rfl, vt_19⟩
def own_L14 (x0 : Int32) (x1 : Int32) (x2 : Int32) (x3 : Int32) (x4 : Int32) (x5 : Int32) (x6 : Int32) (x7 : Int32) (x8 : Int32) (x9 : Int32) (x10 : Int32) (x11 : Int32) (x12 : Int32) (x13 : Int32) (x14 : Int32) (x15 : Addr) : Array Slot := #[.val (.int x0), .val (.int x1), .val (.int x2), .val (.int x3), .val (.int x4), .val (.int x5), .val (.int x6), .val (.int x7), .val (.int x8), .val (.int x9), .val (.int x10), .val (.int x11), .val (.int x12), .val (.int 0), .val (.int x13), .val (.int x14), .val (.int 0), .val (.int 0), .val (.ref x15), .unset, .unset, .unset, .unset, .unset, .unset, .unset, .unset, .unset]
def own_L15 (x0 : Int32) (x1 : Int32) (x2 : Int32) (x3 : Int32) (x4 : Int32) (x5 : Int32) (x6 : Int32) (x7 : Int32) (x8 : Int32) (x9 : Int32) (x10 : Int32) (x11 : Int32) (x12 : Int32) (x13 : Int32) (x14 : Int32) (x15 : Addr) : Array Slot := #[.val (.int x0), .val (.int x1), .val (.int x2), .val (.int x3), .val (.int x4), .val (.int x5), .val (.int x6), .val (.int x7), .val (.int x8), .val (.int x9), .val (.int x10), .val (.int x11), .val (.int x12), .val (.int 0), .val (.int x13), .val (.int x14), .val (.int 0), .val (.int 0), .val (.ref x15), .val (.long 0), .second, .unset, .unset, .unset, .unset, .unset, .unset, .unset]
def own_L16 (x0 : Addr) : Array Slot := #[.val (.ref x0), .val (.double 0), .second, .val (.int 0)]
theorem own_d7_0 : decode prog_29_method_11_code 0 = .ok (.dconst 0, 1) := by decide +kernel
theorem own_d7_1 : decode prog_29_method_11_code 1 = .ok (.dstore_n 1, 1) := by decide +kernel
theorem own_d7_2 : decode prog_29_method_11_code 2 = .ok (.iconst 0, 1) := by decide +kernel
theorem own_d7_3 : decode prog_29_method_11_code 3 = .ok (.istore_n 3, 1) := by decide +kernel
theorem own_d7_4 : decode prog_29_method_11_code 4 = .ok (.iload_n 3, 1) := by decide +kernel
theorem own_d7_5 : decode prog_29_method_11_code 5 = .ok (.aload_n 0, 1) := by decide +kernel
theorem own_d7_6 : decode prog_29_method_11_code 6 = .ok (.getfield 116, 3) := by decide +kernel
theorem own_d7_9 : decode prog_29_method_11_code 9 = .ok (.if_icmp .ge 30, 3) := by decide +kernel
theorem own_d7_39 : decode prog_29_method_11_code 39 = .ok (.dload_n 1, 1) := by decide +kernel
theorem own_d7_40 : decode prog_29_method_11_code 40 = .ok (.dreturn, 1) := by decide +kernel
theorem own_ef7a (m : MethodId) (tt : Addr) : entryFrame m #[(.ref tt)] 4 = mkF m 0 #[.val (.ref tt), .unset, .unset, .unset] [] := by first | (simp [entryFrame, mkF, argsToLocals, Value.category]; done) | rfl
def own_Q7a (Z : State) (tt : Addr) (aA : Nat → Addr) (aK : Nat → ClassId) (aF : Nat → Nat → Value) (aV : Nat → Value) (aJ : List own_e) (h0 : Heap) (n0 : Nat) (v : Option Value) (h : Heap) (L : List Loc) : Prop := v = some (.double 0) ∧ Fr n0 L ∧ own_R 15 Z n0 h tt aA aK aF aV (aJ)
set_option maxRecDepth 65536 in
set_option maxHeartbeats 40000000 in
theorem own_rm7a (l : Launch) (Z : State) (a0 : Array Value) (hw : ∀ d ∈ tables_1, d.before a0 Z = true) (ws : List Jvm.Cond) (tt : Addr) (aA : Nat → Addr) (aK : Nat → ClassId) (aF : Nat → Nat → Value) (aV : Nat → Value) (aJ : List own_e) (h0 : Heap) (n0 : Nat) (Z0 : n0 ≤ h0.size) (B0 : own_R 15 Z n0 h0 tt aA aK aF aV (aJ)) (vt_17 : aV 17 = (.int 0)) :
    MetFree l (⟨"com/example/placewright/placewright/solver/RevisedSimplex", "objective", "()D"⟩ : MethodName) (head1 (Jvm.Cond.code (⟨"com/example/placewright/placewright/solver/RevisedSimplex", "objective", "()D"⟩ : MethodName) prog_29_method_11_code 4 (some .double) :: ws) ({ frames := 0, cells := 0, slots := 0, locals := 0 } : Room)) (fun a U => a = #[(.ref tt)] ∧ Z.Warmed39 U.vm ∧ U.heap = h0) (fun _ _ _ _ _ => True) (fun _ U o U' => ∃ v L, o = .returned v ∧ own_Q7a Z tt aA aK aF aV aJ h0 n0 v U'.heap L ∧ FrameEnd U o U' L ({ frames := 0, cells := 0, slots := 0, locals := 0 } : Room).cells ({ frames := 0, cells := 0, slots := 0, locals := 0 } : Room).slots) := by
  refine MetFree.of_bodySF (plainFor_of_name own_pn4) hisR ?_
  intro p e s m args below meth c s₁ Bd hml0 hP hK
  obtain ⟨rfl, hZ, hh⟩ := hP
  have hx := Bd.exec
  have hby := Bd.bytes
  have hml : c.maxLocals = 4 := hml0
  have hown : s.vm.findClass "com/example/placewright/placewright/solver/RevisedSimplex" = some m.cls := findClass_of_methodNamed Bd.named
  have hnm := (name_of_methodNamed Bd.named Bd.method).1
  have X0 : Stand p l e ({ frames := 0, cells := 0, slots := 0, locals := 0 } : Room) s m #[(.ref tt)] below meth c s₁ [] 0 0 := Stand.of_body Bd
  have e0 : s₁.heap = h0 := by rw [← hh, Bd.state]; rfl
  have N0 := Fr.nil n0
  have Zr : h0.size ≤ h0.size := Nat.le_refl _
  have pre0 : ∀ t, Steps p.tables e below (s₁.setTop (mkF m 0 #[.val (.ref tt), .unset, .unset, .unset] [])) t → Steps p.tables e below (s₁.setTop (entryFrame m #[(.ref tt)] 4)) t := fun t k => castTop (own_ef7a m tt) k
  obtain ⟨Tn1, Xn1, en1, stn1⟩ := getF X0 hx hZ hown (host := "") (Or.inl (own_W hw 121 rfl)) Via.refl e0 (own_gs (v := (.int 0)) B0 17 (by decide) vt_17) (g := (mkF m 6 (own_L16 tt) [(.ref tt), (.int 0)])) rfl rfl (hb hby own_d7_6)
  obtain ⟨fs, hr, hrun, hended, hW, hsame⟩ := Xn1.leave (v := some (.double 0)) (fun h => by rw [Bd.returns] at h; cases h)
  refine ⟨_, _, pre0 _ (?_), hrun, hended, _, _, rfl, ?_, ⟨_, rfl⟩, hW, hsame.mono (by decide) (by decide)⟩
  · show Steps p.tables e below (s₁.setTop (mkF m 0 #[.val (.ref tt), .unset, .unset, .unset] [])) _
    refine XS.dconst0 X0.here hx rfl (hb hby own_d7_0) (v := (0 : UInt64)) (by decide +kernel) ?_
    refine XS.dstoreN X0.here hx rfl (hb hby own_d7_1) rfl (l' := #[.val (.ref tt), .val (.double 0), .second, .unset]) rfl ?_
    refine XS.iconst X0.here hx rfl (hb hby own_d7_2) ?_
    refine XS.istoreN X0.here hx rfl (hb hby own_d7_3) rfl (l' := (own_L16 tt)) rfl ?_
    refine XS.iloadN X0.here hx rfl (hb hby own_d7_4) rfl ?_
    refine XS.aloadN X0.here hx rfl (hb hby own_d7_5) rfl rfl ?_
    refine stn1 _ ?_
    show Steps p.tables e below (Tn1.setTop (mkF m 9 (own_L16 tt) [(.int 0), (.int 0)])) _
    refine XS.icmpYes Xn1.here hx rfl (pc0 := 9) (pc' := 39) rfl (hb hby own_d7_9) rfl (XT.ii_ge_t (by decide : ¬ ((0 : Int32) < (0 : Int32)))) (by decide) (by decide) ?_
    refine XS.dloadN Xn1.here hx rfl (hb hby own_d7_39) rfl ?_
    show Steps p.tables e below (Tn1.setTop (mkF m 40 (own_L16 tt) [(.double 0)])) _
    exact own_retD Xn1 hx Bd.returns (hb hby own_d7_40) hr
  · show own_Q7a Z tt aA aK aF aV aJ h0 n0 _ Tn1.heap _
    rw [en1]
    exact ⟨rfl, N0, B0⟩
theorem own_pd3 : parseMethodDescriptor "()D" = some ⟨[], some .double⟩ := by decide +kernel
def own_L17 (x0 : Int32) (x1 : Int32) (x2 : Int32) (x3 : Int32) (x4 : Int32) (x5 : Int32) (x6 : Int32) (x7 : Int32) (x8 : Int32) (x9 : Int32) (x10 : Int32) (x11 : Int32) (x12 : Int32) : Array Slot := #[.val (.int x0), .val (.int x1), .val (.int x2), .val (.int x3), .val (.int x4), .val (.int x5), .val (.int x6), .val (.int x7), .val (.int x8), .val (.int x9), .val (.int x10), .val (.int x11), .val (.int x12), .val (.int 1), .unset, .unset, .unset, .unset, .unset, .unset, .unset, .unset, .unset, .unset, .unset, .unset, .unset, .unset]
def own_L18 (x0 : Int32) (x1 : Int32) (x2 : Int32) (x3 : Int32) (x4 : Int32) (x5 : Int32) (x6 : Int32) (x7 : Int32) (x8 : Int32) (x9 : Int32) (x10 : Int32) (x11 : Int32) (x12 : Int32) (x13 : Int32) : Array Slot := #[.val (.int x0), .val (.int x1), .val (.int x2), .val (.int x3), .val (.int x4), .val (.int x5), .val (.int x6), .val (.int x7), .val (.int x8), .val (.int x9), .val (.int x10), .val (.int x11), .val (.int x12), .val (.int 1), .val (.int x13), .unset, .unset, .unset, .unset, .unset, .unset, .unset, .unset, .unset, .unset, .unset, .unset, .unset]
def own_L19 (x0 : Int32) (x1 : Int32) (x2 : Int32) (x3 : Int32) (x4 : Int32) (x5 : Int32) (x6 : Int32) (x7 : Int32) (x8 : Int32) (x9 : Int32) (x10 : Int32) (x11 : Int32) (x12 : Int32) (x13 : Int32) (x14 : Int32) : Array Slot := #[.val (.int x0), .val (.int x1), .val (.int x2), .val (.int x3), .val (.int x4), .val (.int x5), .val (.int x6), .val (.int x7), .val (.int x8), .val (.int x9), .val (.int x10), .val (.int x11), .val (.int x12), .val (.int 1), .val (.int x13), .val (.int x14), .unset, .unset, .unset, .unset, .unset, .unset, .unset, .unset, .unset, .unset, .unset, .unset]
theorem own_ef1_1_2 (m : MethodId) : entryFrame m #[(.int 1), (.int 2)] 2 = mkF m 0 #[.val (.int 1), .val (.int 2)] [] := by first | (simp [entryFrame, mkF, argsToLocals, Value.category]; done) | rfl
def own_Q1_1_2 (Z : State) (h0 : Heap) (n0 : Nat) (v : Option Value) (h : Heap) (L : List Loc) : Prop := v = some (.int 1) ∧ Fr n0 L ∧ h = h0
set_option maxRecDepth 65536 in
set_option maxHeartbeats 40000000 in
theorem own_rm1_1_2 (l : Launch) (Z : State) (a0 : Array Value) (hw : ∀ d ∈ tables_1, d.before a0 Z = true) (ws : List Jvm.Cond) (h0 : Heap) (n0 : Nat) (Z0 : n0 ≤ h0.size) :
    MetFree l (⟨"java/lang/Math", "min", "(II)I"⟩ : MethodName) (head1 (Jvm.Cond.code (⟨"java/lang/Math", "min", "(II)I"⟩ : MethodName) jdk_29_method_69_code 2 (some .int) :: ws) ({ frames := 0, cells := 0, slots := 0, locals := 0 } : Room)) (fun a U => a = #[(.int 1), (.int 2)] ∧ Z.Warmed39 U.vm ∧ U.heap = h0) (fun _ _ _ _ _ => True) (fun _ U o U' => ∃ v L, o = .returned v ∧ own_Q1_1_2 Z  h0 n0 v U'.heap L ∧ FrameEnd U o U' L ({ frames := 0, cells := 0, slots := 0, locals := 0 } : Room).cells ({ frames := 0, cells := 0, slots := 0, locals := 0 } : Room).slots) := by
  refine MetFree.of_bodySF (Jvm.Free.JP.mathPlain rfl (by decide +kernel)) hisR ?_
  intro p e s m args below meth c s₁ Bd hml0 hP hK
  obtain ⟨rfl, hZ, hh⟩ := hP
  have hx := Bd.exec
  have hby := Bd.bytes
  have hml : c.maxLocals = 2 := hml0
  have hown : s.vm.findClass "java/lang/Math" = some m.cls := findClass_of_methodNamed Bd.named
  have hnm := (name_of_methodNamed Bd.named Bd.method).1
  have X0 : Stand p l e ({ frames := 0, cells := 0, slots := 0, locals := 0 } : Room) s m #[(.int 1), (.int 2)] below meth c s₁ [] 0 0 := Stand.of_body Bd
  have e0 : s₁.heap = h0 := by rw [← hh, Bd.state]; rfl
  have N0 := Fr.nil n0
  have Zr : h0.size ≤ h0.size := Nat.le_refl _
  have pre0 : ∀ t, Steps p.tables e below (s₁.setTop (mkF m 0 #[.val (.int 1), .val (.int 2)] [])) t → Steps p.tables e below (s₁.setTop (entryFrame m #[(.int 1), (.int 2)] 2)) t := fun t k => castTop (own_ef1_1_2 m) k
  obtain ⟨fs, hr, hrun, hended, hW, hsame⟩ := X0.leave (v := some (.int 1)) (fun h => by rw [Bd.returns] at h; cases h)
  refine ⟨_, _, pre0 _ (?_), hrun, hended, _, _, rfl, ?_, ⟨_, rfl⟩, hW, hsame.mono (by decide) (by decide)⟩
  · show Steps p.tables e below (s₁.setTop (mkF m 0 #[.val (.int 1), .val (.int 2)] [])) _
    refine XS.iloadN X0.here hx rfl (hb hby own_d1_0) rfl ?_
    refine XS.iloadN X0.here hx rfl (hb hby own_d1_1) rfl ?_
    refine XS.icmpNo X0.here hx rfl (hb hby own_d1_2) rfl (XT.ii_gt_f (by decide : ¬ ((2 : Int32) < (1 : Int32)))) ?_
    refine XS.iloadN X0.here hx rfl (hb hby own_d1_5) rfl ?_
    refine XS.goto X0.here hx rfl (pc0 := 6) (pc' := 10) rfl (hb hby own_d1_6) (by decide) (by decide) ?_
    show Steps p.tables e below (s₁.setTop (mkF m 10 #[.val (.int 1), .val (.int 2)] [(.int 1)])) _
    exact retI X0 hx Bd.returns (hb hby own_d1_10) hr
  · show own_Q1_1_2 Z  h0 n0 _ s₁.heap _
    rw [e0]
    exact ⟨rfl, N0, rfl⟩
def own_L20 (x0 : Int32) (x1 : Int32) (x2 : Int32) (x3 : Int32) (x4 : Int32) (x5 : Int32) (x6 : Int32) (x7 : Int32) (x8 : Int32) (x9 : Int32) (x10 : Int32) (x11 : Int32) (x12 : Int32) (x13 : Int32) (x14 : Int32) : Array Slot := #[.val (.int x0), .val (.int x1), .val (.int x2), .val (.int x3), .val (.int x4), .val (.int x5), .val (.int x6), .val (.int x7), .val (.int x8), .val (.int x9), .val (.int x10), .val (.int x11), .val (.int x12), .val (.int 1), .val (.int x13), .val (.int x14), .val (.int 1), .unset, .unset, .unset, .unset, .unset, .unset, .unset, .unset, .unset, .unset, .unset]
def own_L21 (x0 : Int32) (x1 : Int32) (x2 : Int32) (x3 : Int32) (x4 : Int32) (x5 : Int32) (x6 : Int32) (x7 : Int32) (x8 : Int32) (x9 : Int32) (x10 : Int32) (x11 : Int32) (x12 : Int32) (x13 : Int32) (x14 : Int32) : Array Slot := #[.val (.int x0), .val (.int x1), .val (.int x2), .val (.int x3), .val (.int x4), .val (.int x5), .val (.int x6), .val (.int x7), .val (.int x8), .val (.int x9), .val (.int x10), .val (.int x11), .val (.int x12), .val (.int 1), .val (.int x13), .val (.int x14), .val (.int 1), .val (.int 0), .unset, .unset, .unset, .unset, .unset, .unset, .unset, .unset, .unset, .unset]
def own_L22 (x0 : Int32) (x1 : Int32) (x2 : Int32) (x3 : Int32) (x4 : Int32) (x5 : Int32) (x6 : Int32) (x7 : Int32) (x8 : Int32) (x9 : Int32) (x10 : Int32) (x11 : Int32) (x12 : Int32) (x13 : Int32) (x14 : Int32) (x15 : Addr) : Array Slot := #[.val (.int x0), .val (.int x1), .val (.int x2), .val (.int x3), .val (.int x4), .val (.int x5), .val (.int x6), .val (.int x7), .val (.int x8), .val (.int x9), .val (.int x10), .val (.int x11), .val (.int x12), .val (.int 1), .val (.int x13), .val (.int x14), .val (.int 1), .val (.int 0), .val (.ref x15), .unset, .unset, .unset, .unset, .unset, .unset, .unset, .unset, .unset]
def own_L23 (x0 : Int32) (x1 : Int32) (x2 : Int32) (x3 : Int32) (x4 : Int32) (x5 : Int32) (x6 : Int32) (x7 : Int32) (x8 : Int32) (x9 : Int32) (x10 : Int32) (x11 : Int32) (x12 : Int32) (x13 : Int32) (x14 : Int32) (x15 : Addr) : Array Slot := #[.val (.int x0), .val (.int x1), .val (.int x2), .val (.int x3), .val (.int x4), .val (.int x5), .val (.int x6), .val (.int x7), .val (.int x8), .val (.int x9), .val (.int x10), .val (.int x11), .val (.int x12), .val (.int 1), .val (.int x13), .val (.int x14), .val (.int 1), .val (.int 0), .val (.ref x15), .val (.long 0), .second, .unset, .unset, .unset, .unset, .unset, .unset, .unset]
def own_L24 (x0 : Addr) (x1 : UInt64) (x2 : Addr) (x3 : Addr) (x4 : UInt64) (x5 : UInt64) : Array Slot := #[.val (.ref x0), .val (.double x1), .second, .val (.ref x2), .val (.ref x3), .val (.double x4), .second, .val (.double x5), .second, .unset, .unset, .unset, .unset, .unset, .unset]
def own_L25 (x0 : Addr) (x1 : UInt64) (x2 : Addr) (x3 : Addr) (x4 : UInt64) (x5 : UInt64) : Array Slot := #[.val (.ref x0), .val (.double x1), .second, .val (.ref x2), .val (.ref x3), .val (.double x4), .second, .val (.double x5), .second, .val (.int 0), .unset, .unset, .unset, .unset, .unset]
theorem own_d9_0 : decode jdk_29_method_65_code 0 = .ok (.iload_n 0, 1) := by decide +kernel
theorem own_d9_1 : decode jdk_29_method_65_code 1 = .ok (.iload_n 1, 1) := by decide +kernel
theorem own_d9_2 : decode jdk_29_method_65_code 2 = .ok (.if_icmp .lt 7, 3) := by decide +kernel
theorem own_d9_9 : decode jdk_29_method_65_code 9 = .ok (.iload_n 1, 1) := by decide +kernel
theorem own_d9_10 : decode jdk_29_method_65_code 10 = .ok (.ireturn, 1) := by decide +kernel
theorem own_ef9_1_2 (m : MethodId) : entryFrame m #[(.int 1), (.int 2)] 2 = mkF m 0 #[.val (.int 1), .val (.int 2)] [] := by first | (simp [entryFrame, mkF, argsToLocals, Value.category]; done) | rfl
def own_Q9_1_2 (Z : State) (h0 : Heap) (n0 : Nat) (v : Option Value) (h : Heap) (L : List Loc) : Prop := v = some (.int 2) ∧ Fr n0 L ∧ h = h0
set_option maxRecDepth 65536 in
set_option maxHeartbeats 40000000 in
theorem own_rm9_1_2 (l : Launch) (Z : State) (a0 : Array Value) (hw : ∀ d ∈ tables_1, d.before a0 Z = true) (ws : List Jvm.Cond) (h0 : Heap) (n0 : Nat) (Z0 : n0 ≤ h0.size) :
    MetFree l (⟨"java/lang/Math", "max", "(II)I"⟩ : MethodName) (head1 (Jvm.Cond.code (⟨"java/lang/Math", "max", "(II)I"⟩ : MethodName) jdk_29_method_65_code 2 (some .int) :: ws) ({ frames := 0, cells := 0, slots := 0, locals := 0 } : Room)) (fun a U => a = #[(.int 1), (.int 2)] ∧ Z.Warmed39 U.vm ∧ U.heap = h0) (fun _ _ _ _ _ => True) (fun _ U o U' => ∃ v L, o = .returned v ∧ own_Q9_1_2 Z  h0 n0 v U'.heap L ∧ FrameEnd U o U' L ({ frames := 0, cells := 0, slots := 0, locals := 0 } : Room).cells ({ frames := 0, cells := 0, slots := 0, locals := 0 } : Room).slots) := by
  refine MetFree.of_bodySF (Jvm.Free.JP.mathPlain rfl (by decide +kernel)) hisR ?_
  intro p e s m args below meth c s₁ Bd hml0 hP hK
  obtain ⟨rfl, hZ, hh⟩ := hP
  have hx := Bd.exec
  have hby := Bd.bytes
  have hml : c.maxLocals = 2 := hml0
  have hown : s.vm.findClass "java/lang/Math" = some m.cls := findClass_of_methodNamed Bd.named
  have hnm := (name_of_methodNamed Bd.named Bd.method).1
  have X0 : Stand p l e ({ frames := 0, cells := 0, slots := 0, locals := 0 } : Room) s m #[(.int 1), (.int 2)] below meth c s₁ [] 0 0 := Stand.of_body Bd
  have e0 : s₁.heap = h0 := by rw [← hh, Bd.state]; rfl
  have N0 := Fr.nil n0
  have Zr : h0.size ≤ h0.size := Nat.le_refl _
  have pre0 : ∀ t, Steps p.tables e below (s₁.setTop (mkF m 0 #[.val (.int 1), .val (.int 2)] [])) t → Steps p.tables e below (s₁.setTop (entryFrame m #[(.int 1), (.int 2)] 2)) t := fun t k => castTop (own_ef9_1_2 m) k
  obtain ⟨fs, hr, hrun, hended, hW, hsame⟩ := X0.leave (v := some (.int 2)) (fun h => by rw [Bd.returns] at h; cases h)
  refine ⟨_, _, pre0 _ (?_), hrun, hended, _, _, rfl, ?_, ⟨_, rfl⟩, hW, hsame.mono (by decide) (by decide)⟩
  · show Steps p.tables e below (s₁.setTop (mkF m 0 #[.val (.int 1), .val (.int 2)] [])) _
    refine XS.iloadN X0.here hx rfl (hb hby own_d9_0) rfl ?_
    refine XS.iloadN X0.here hx rfl (hb hby own_d9_1) rfl ?_
    refine XS.icmpYes X0.here hx rfl (pc0 := 2) (pc' := 9) rfl (hb hby own_d9_2) rfl (XT.ii_lt_t (by decide : (1 : Int32) < (2 : Int32))) (by decide) (by decide) ?_
    refine XS.iloadN X0.here hx rfl (hb hby own_d9_9) rfl ?_
    show Steps p.tables e below (s₁.setTop (mkF m 10 #[.val (.int 1), .val (.int 2)] [(.int 2)])) _
    exact retI X0 hx Bd.returns (hb hby own_d9_10) hr
  · show own_Q9_1_2 Z  h0 n0 _ s₁.heap _
    rw [e0]
    exact ⟨rfl, N0, rfl⟩
def own_L26 (x0 : Addr) (x1 : UInt64) (x2 : Addr) (x3 : Addr) (x4 : UInt64) (x5 : UInt64) : Array Slot := #[.val (.ref x0), .val (.double x1), .second, .val (.ref x2), .val (.ref x3), .val (.double x4), .second, .val (.double x5), .second, .val (.int 0), .val (.int 0), .unset, .unset, .unset, .unset]
def own_L27 (x0 : Addr) (x1 : UInt64) (x2 : Addr) (x3 : Addr) (x4 : UInt64) (x5 : UInt64) : Array Slot := #[.val (.ref x0), .val (.double x1), .second, .val (.ref x2), .val (.ref x3), .val (.double x4), .second, .val (.double x5), .second, .val (.int 0), .val (.double 0), .second, .unset, .unset, .unset]
def own_L28 (x0 : Addr) (x1 : UInt64) (x2 : Addr) (x3 : Addr) (x4 : UInt64) (x5 : UInt64) : Array Slot := #[.val (.ref x0), .val (.double x1), .second, .val (.ref x2), .val (.ref x3), .val (.double x4), .second, .val (.double x5), .second, .val (.int 0), .val (.double 0), .second, .val (.int 0), .unset, .unset]
def own_L29 (x0 : Addr) (x1 : UInt64) (x2 : Addr) (x3 : Addr) (x4 : UInt64) (x5 : UInt64) (x6 : UInt64) : Array Slot := #[.val (.ref x0), .val (.double x1), .second, .val (.ref x2), .val (.ref x3), .val (.double x4), .second, .val (.double x5), .second, .val (.int 0), .val (.double 0), .second, .val (.double x6), .second, .unset]
def own_L30 (x0 : Addr) (x1 : Addr) (x2 : Addr) (x3 : UInt64) : Array Slot := #[.val (.ref x0), .val (.ref x1), .val (.ref x2), .val (.double x3), .second, .unset, .unset]
def own_L31 (x0 : Addr) (x1 : Addr) (x2 : Addr) (x3 : UInt64) : Array Slot := #[.val (.ref x0), .val (.ref x1), .val (.ref x2), .val (.double x3), .second, .val (.int 0), .unset]
def own_L32 (x0 : Addr) (x1 : Addr) (x2 : Addr) (x3 : UInt64) : Array Slot := #[.val (.ref x0), .val (.ref x1), .val (.ref x2), .val (.double x3), .second, .val (.int 0), .val (.int 0)]
def own_L33 (x0 : Addr) (x1 : UInt64) : Array Slot := #[.val (.ref x0), .val (.int 0), .val (.int 0), .val (.double x1), .second]
theorem own_d11_0 : decode prog_29_method_4_code 0 = .ok (.aload_n 0, 1) := by decide +kernel
theorem own_d11_1 : decode prog_29_method_4_code 1 = .ok (.getfield 39, 3) := by decide +kernel
theorem own_d11_4 : decode prog_29_method_4_code 4 = .ok (.iload_n 1, 1) := by decide +kernel
theorem own_d11_5 : decode prog_29_method_4_code 5 = .ok (.iaload, 1) := by decide +kernel
theorem own_d11_6 : decode prog_29_method_4_code 6 = .ok (.aload_n 0, 1) := by decide +kernel
theorem own_d11_7 : decode prog_29_method_4_code 7 = .ok (.getfield 33, 3) := by decide +kernel
theorem own_d11_10 : decode prog_29_method_4_code 10 = .ok (.iload_n 1, 1) := by decide +kernel
theorem own_d11_11 : decode prog_29_method_4_code 11 = .ok (.aaload, 1) := by decide +kernel
theorem own_d11_12 : decode prog_29_method_4_code 12 = .ok (.arraylength, 1) := by decide +kernel
theorem own_d11_13 : decode prog_29_method_4_code 13 = .ok (.if_icmp .ne 49, 3) := by decide +kernel
theorem own_d11_62 : decode prog_29_method_4_code 62 = .ok (.aload_n 0, 1) := by decide +kernel
theorem own_d11_63 : decode prog_29_method_4_code 63 = .ok (.getfield 33, 3) := by decide +kernel
theorem own_d11_66 : decode prog_29_method_4_code 66 = .ok (.iload_n 1, 1) := by decide +kernel
theorem own_d11_67 : decode prog_29_method_4_code 67 = .ok (.aaload, 1) := by decide +kernel
theorem own_d11_68 : decode prog_29_method_4_code 68 = .ok (.aload_n 0, 1) := by decide +kernel
theorem own_d11_69 : decode prog_29_method_4_code 69 = .ok (.getfield 39, 3) := by decide +kernel
theorem own_d11_72 : decode prog_29_method_4_code 72 = .ok (.iload_n 1, 1) := by decide +kernel
theorem own_d11_73 : decode prog_29_method_4_code 73 = .ok (.iaload, 1) := by decide +kernel
theorem own_d11_74 : decode prog_29_method_4_code 74 = .ok (.iload_n 2, 1) := by decide +kernel
theorem own_d11_75 : decode prog_29_method_4_code 75 = .ok (.iastore, 1) := by decide +kernel
theorem own_d11_76 : decode prog_29_method_4_code 76 = .ok (.aload_n 0, 1) := by decide +kernel
theorem own_d11_77 : decode prog_29_method_4_code 77 = .ok (.getfield 36, 3) := by decide +kernel
theorem own_d11_80 : decode prog_29_method_4_code 80 = .ok (.iload_n 1, 1) := by decide +kernel
theorem own_d11_81 : decode prog_29_method_4_code 81 = .ok (.aaload, 1) := by decide +kernel
theorem own_d11_82 : decode prog_29_method_4_code 82 = .ok (.aload_n 0, 1) := by decide +kernel
theorem own_d11_83 : decode prog_29_method_4_code 83 = .ok (.getfield 39, 3) := by decide +kernel
theorem own_d11_86 : decode prog_29_method_4_code 86 = .ok (.iload_n 1, 1) := by decide +kernel
theorem own_d11_87 : decode prog_29_method_4_code 87 = .ok (.iaload, 1) := by decide +kernel
theorem own_d11_88 : decode prog_29_method_4_code 88 = .ok (.dload_n 3, 1) := by decide +kernel
theorem own_d11_89 : decode prog_29_method_4_code 89 = .ok (.dastore, 1) := by decide +kernel
theorem own_d11_90 : decode prog_29_method_4_code 90 = .ok (.aload_n 0, 1) := by decide +kernel
theorem own_d11_91 : decode prog_29_method_4_code 91 = .ok (.getfield 39, 3) := by decide +kernel
theorem own_d11_94 : decode prog_29_method_4_code 94 = .ok (.iload_n 1, 1) := by decide +kernel
theorem own_d11_95 : decode prog_29_method_4_code 95 = .ok (.dup2, 1) := by decide +kernel
theorem own_d11_96 : decode prog_29_method_4_code 96 = .ok (.iaload, 1) := by decide +kernel
theorem own_d11_97 : decode prog_29_method_4_code 97 = .ok (.iconst 1, 1) := by decide +kernel
theorem own_d11_98 : decode prog_29_method_4_code 98 = .ok (.iadd, 1) := by decide +kernel
theorem own_d11_99 : decode prog_29_method_4_code 99 = .ok (.iastore, 1) := by decide +kernel
theorem own_d11_100 : decode prog_29_method_4_code 100 = .ok (.return_, 1) := by decide +kernel
theorem own_ef11a (m : MethodId) (tt : Addr) (d3 : UInt64) : entryFrame m #[(.ref tt), (.int 0), (.int 0), (.double d3)] 5 = mkF m 0 #[.val (.ref tt), .val (.int 0), .val (.int 0), .val (.double d3), .second] [] := by first | (simp [entryFrame, mkF, argsToLocals, Value.category]; done) | rfl
def own_Q11a (Z : State) (tt : Addr) (aA : Nat → Addr) (aK : Nat → ClassId) (aF : Nat → Nat → Value) (aV : Nat → Value) (aJ : List own_e) (d3 : UInt64) (y0 : Addr) (k_y0 : ClassId) (y1 : Addr) (k_y1 : ClassId) (h0 : Heap) (n0 : Nat) (v : Option Value) (h : Heap) (L : List Loc) : Prop := v = none ∧ Fr n0 L ∧ own_R 15 Z n0 h tt aA aK (own_up2 aF 8 0 (.int 1)) aV (⟨y0, k_y0, .int, 2, none⟩ :: ⟨y1, k_y1, .double, 2, none⟩ :: aJ)
set_option maxRecDepth 65536 in
set_option maxHeartbeats 40000000 in
theorem own_rm11a (l : Launch) (Z : State) (a0 : Array Value) (hw : ∀ d ∈ tables_1, d.before a0 Z = true) (ws : List Jvm.Cond) (tt : Addr) (aA : Nat → Addr) (aK : Nat → ClassId) (aF : Nat → Nat → Value) (aV : Nat → Value) (aJ : List own_e) (d3 : UInt64) (y0 : Addr) (k_y0 : ClassId) (y1 : Addr) (k_y1 : ClassId) (h0 : Heap) (n0 : Nat) (Z0 : n0 ≤ h0.size) (B0 : own_R 15 Z n0 h0 tt aA aK aF aV (⟨y0, k_y0, .int, 2, none⟩ :: ⟨y1, k_y1, .double, 2, none⟩ :: aJ)) (at_8_0 : aF 8 0 = (.int 0)) (at_6_0 : aF 6 0 = (.ref y0)) (at_7_0 : aF 7 0 = (.ref y1)) :
    MetFree l (⟨"com/example/placewright/placewright/solver/RevisedSimplex", "addToRow", "(IID)V"⟩ : MethodName) (head1 (Jvm.Cond.code (⟨"com/example/placewright/placewright/solver/RevisedSimplex", "addToRow", "(IID)V"⟩ : MethodName) prog_29_method_4_code 5 none :: ws) ({ frames := 0, cells := 0, slots := 0, locals := 0 } : Room)) (fun a U => a = #[(.ref tt), (.int 0), (.int 0), (.double d3)] ∧ Z.Warmed39 U.vm ∧ U.heap = h0) (fun _ _ _ _ _ => True) (fun _ U o U' => ∃ v L, o = .returned v ∧ own_Q11a Z tt aA aK aF aV aJ d3 y0 k_y0 y1 k_y1 h0 n0 v U'.heap L ∧ FrameEnd U o U' L ({ frames := 0, cells := 0, slots := 0, locals := 0 } : Room).cells ({ frames := 0, cells := 0, slots := 0, locals := 0 } : Room).slots) := by
  refine MetFree.of_bodySF (plainFor_of_name own_pn4) hisR ?_
  intro p e s m args below meth c s₁ Bd hml0 hP hK
  obtain ⟨rfl, hZ, hh⟩ := hP
  have hx := Bd.exec
  have hby := Bd.bytes
  have hml : c.maxLocals = 5 := hml0
  have hown : s.vm.findClass "com/example/placewright/placewright/solver/RevisedSimplex" = some m.cls := findClass_of_methodNamed Bd.named
  have hnm := (name_of_methodNamed Bd.named Bd.method).1
  have X0 : Stand p l e ({ frames := 0, cells := 0, slots := 0, locals := 0 } : Room) s m #[(.ref tt), (.int 0), (.int 0), (.double d3)] below meth c s₁ [] 0 0 := Stand.of_body Bd
  have e0 : s₁.heap = h0 := by rw [← hh, Bd.state]; rfl
  have N0 := Fr.nil n0
  have Zr : h0.size ≤ h0.size := Nat.le_refl _
  have pre0 : ∀ t, Steps p.tables e below (s₁.setTop (mkF m 0 #[.val (.ref tt), .val (.int 0), .val (.int 0), .val (.double d3), .second] [])) t → Steps p.tables e below (s₁.setTop (entryFrame m #[(.ref tt), (.int 0), (.int 0), (.double d3)] 5)) t := fun t k => castTop (own_ef11a m tt d3) k
  obtain ⟨Tn1, Xn1, en1, stn1⟩ := getF X0 hx hZ hown (host := "") (Or.inl (own_W hw 36 rfl)) Via.refl e0 (own_ga B0 8 (by decide) (by decide)) (g := (mkF m 1 (own_L33 tt d3) [(.ref tt)])) rfl rfl (hb hby own_d11_1)
  obtain ⟨Tn2, Xn2, en2, stn2⟩ := getF Xn1 hx hZ hown (host := "") (Or.inl (own_W hw 32 rfl)) Via.refl en1 (own_ga B0 6 (by decide) (by decide)) (g := (mkF m 7 (own_L33 tt d3) [(.ref tt), (.int 0)])) rfl rfl (hb hby own_d11_7)
  obtain ⟨Tn3, Xn3, en3, stn3⟩ := getF Xn2 hx hZ hown (host := "") (Or.inl (own_W hw 32 rfl)) Via.refl en2 (own_ga B0 6 (by decide) (by decide)) (g := (mkF m 63 (own_L33 tt d3) [(.ref tt)])) rfl rfl (hb hby own_d11_63)
  obtain ⟨Tn4, Xn4, en4, stn4⟩ := getF Xn3 hx hZ hown (host := "") (Or.inl (own_W hw 36 rfl)) Via.refl en3 (own_ga B0 8 (by decide) (by decide)) (g := (mkF m 69 (own_L33 tt d3) [(.ref tt), (.ref y0)])) rfl rfl (hb hby own_d11_69)
  obtain ⟨Tn5, hn5, Ln5, Xn5, en5, Bn5, Nn5, stn5⟩ := own_seI Xn4 hx hZ en4 B0 N0 0 0 rfl (by decide) (g := (mkF m 75 (own_L33 tt d3) [(.int 0), (.int 0), (.ref y0)])) rfl rfl (hb hby own_d11_75)
  obtain ⟨Tn6, Xn6, en6, stn6⟩ := getF Xn5 hx hZ hown (host := "") (Or.inl (own_W hw 34 rfl)) Via.refl en5 (own_ga Bn5 7 (by decide) (by decide)) (g := (mkF m 77 (own_L33 tt d3) [(.ref tt)])) rfl rfl (hb hby own_d11_77)
  obtain ⟨Tn7, Xn7, en7, stn7⟩ := getF Xn6 hx hZ hown (host := "") (Or.inl (own_W hw 36 rfl)) Via.refl en6 (own_ga Bn5 8 (by decide) (by decide)) (g := (mkF m 83 (own_L33 tt d3) [(.ref tt), (.ref y1)])) rfl rfl (hb hby own_d11_83)
  obtain ⟨Tn8, hn8, Ln8, Xn8, en8, Bn8, Nn8, stn8⟩ := own_seD Xn7 hx hZ en7 Bn5 Nn5 1 0 rfl (by decide) (g := (mkF m 89 (own_L33 tt d3) [(.double d3), (.int 0), (.ref y1)])) rfl rfl (hb hby own_d11_89)
  obtain ⟨Tn9, Xn9, en9, stn9⟩ := getF Xn8 hx hZ hown (host := "") (Or.inl (own_W hw 36 rfl)) Via.refl en8 (own_ga Bn8 8 (by decide) (by decide)) (g := (mkF m 91 (own_L33 tt d3) [(.ref tt)])) rfl rfl (hb hby own_d11_91)
  obtain ⟨Tn10, hn10, Ln10, Xn10, en10, Bn10, Nn10, stn10⟩ := own_stI Xn9 hx hZ en9 Bn8 Nn8 8 0 (by decide) rfl (by decide) (g := (mkF m 99 (own_L33 tt d3) [(.int 1), (.int 0), (.ref (aA 8))])) rfl rfl (hb hby own_d11_99)
  obtain ⟨fs, hr, hrun, hended, hW, hsame⟩ := Xn10.leave (v := none) (fun _ => rfl)
  refine ⟨_, _, pre0 _ (?_), hrun, hended, _, _, rfl, ?_, ⟨_, rfl⟩, hW, hsame.mono (by decide) (by decide)⟩
  · show Steps p.tables e below (s₁.setTop (mkF m 0 (own_L33 tt d3) [])) _
    refine XS.aloadN X0.here hx rfl (hb hby own_d11_0) rfl rfl ?_
    refine stn1 _ ?_
    refine XS.iloadN Xn1.here hx rfl (hb hby own_d11_4) rfl ?_
    refine own_ldI Xn1 hx hZ en1 (own_pk B0 8 (by decide)) 0 (by decide) (v := (.int 0)) at_8_0 (g := (mkF m 5 (own_L33 tt d3) [(.int 0), (.ref (aA 8))])) rfl rfl (hb hby own_d11_5) _ ?_
    show Steps p.tables e below (Tn1.setTop (mkF m 6 (own_L33 tt d3) [(.int 0)])) _
    refine XS.aloadN Xn1.here hx rfl (hb hby own_d11_6) rfl rfl ?_
    refine stn2 _ ?_
    refine XS.iloadN Xn2.here hx rfl (hb hby own_d11_10) rfl ?_
    refine own_ldR Xn2 hx hZ en2 (own_pk B0 6 (by decide)) 0 (by decide) (v := (.ref y0)) at_6_0 (g := (mkF m 11 (own_L33 tt d3) [(.int 0), (.ref (aA 6)), (.int 0)])) rfl rfl (hb hby own_d11_11) _ ?_
    show Steps p.tables e below (Tn2.setTop (mkF m 12 (own_L33 tt d3) [(.ref y0), (.int 0)])) _
    refine own_len Xn2 hx hZ en2 (own_en (m := 0) B0 rfl) (g := (mkF m 12 (own_L33 tt d3) [(.ref y0), (.int 0)])) rfl rfl (hb hby own_d11_12) _ ?_
    refine XS.icmpYes Xn2.here hx rfl (pc0 := 13) (pc' := 62) rfl (hb hby own_d11_13) rfl (XT.ii_ne_t (by decide : ¬ ((0 : Int32) = (2 : Int32)))) (by decide) (by decide) ?_
    refine XS.aloadN Xn2.here hx rfl (hb hby own_d11_62) rfl rfl ?_
    refine stn3 _ ?_
    show Steps p.tables e below (Tn3.setTop (mkF m 66 (own_L33 tt d3) [(.ref (aA 6))])) _
    refine XS.iloadN Xn3.here hx rfl (hb hby own_d11_66) rfl ?_
    refine own_ldR Xn3 hx hZ en3 (own_pk B0 6 (by decide)) 0 (by decide) (v := (.ref y0)) at_6_0 (g := (mkF m 67 (own_L33 tt d3) [(.int 0), (.ref (aA 6))])) rfl rfl (hb hby own_d11_67) _ ?_
    refine XS.aloadN Xn3.here hx rfl (hb hby own_d11_68) rfl rfl ?_
    refine stn4 _ ?_
    show Steps p.tables e below (Tn4.setTop (mkF m 72 (own_L33 tt d3) [(.ref (aA 8)), (.ref y0)])) _
    refine XS.iloadN Xn4.here hx rfl (hb hby own_d11_72) rfl ?_
    refine own_ldI Xn4 hx hZ en4 (own_pk B0 8 (by decide)) 0 (by decide) (v := (.int 0)) at_8_0 (g := (mkF m 73 (own_L33 tt d3) [(.int 0), (.ref (aA 8)), (.ref y0)])) rfl rfl (hb hby own_d11_73) _ ?_
    refine XS.iloadN Xn4.here hx rfl (hb hby own_d11_74) rfl ?_
    refine stn5 _ ?_
    show Steps p.tables e below (Tn5.setTop (mkF m 76 (own_L33 tt d3) [])) _
    refine XS.aloadN Xn5.here hx rfl (hb hby own_d11_76) rfl rfl ?_
    refine stn6 _ ?_
    refine XS.iloadN Xn6.here hx rfl (hb hby own_d11_80) rfl ?_
    refine own_ldR Xn6 hx hZ en6 (own_pk Bn5 7 (by decide)) 0 (by decide) (v := (.ref y1)) at_7_0 (g := (mkF m 81 (own_L33 tt d3) [(.int 0), (.ref (aA 7))])) rfl rfl (hb hby own_d11_81) _ ?_
    show Steps p.tables e below (Tn6.setTop (mkF m 82 (own_L33 tt d3) [(.ref y1)])) _
    refine XS.aloadN Xn6.here hx rfl (hb hby own_d11_82) rfl rfl ?_
    refine stn7 _ ?_
    refine XS.iloadN Xn7.here hx rfl (hb hby own_d11_86) rfl ?_
    refine own_ldI Xn7 hx hZ en7 (own_pk Bn5 8 (by decide)) 0 (by decide) (v := (.int 0)) at_8_0 (g := (mkF m 87 (own_L33 tt d3) [(.int 0), (.ref (aA 8)), (.ref y1)])) rfl rfl (hb hby own_d11_87) _ ?_
    show Steps p.tables e below (Tn7.setTop (mkF m 88 (own_L33 tt d3) [(.int 0), (.ref y1)])) _
    refine XS.dloadN Xn7.here hx rfl (hb hby own_d11_88) rfl ?_
    refine stn8 _ ?_
    refine XS.aloadN Xn8.here hx rfl (hb hby own_d11_90) rfl rfl ?_
    refine stn9 _ ?_
    show Steps p.tables e below (Tn9.setTop (mkF m 94 (own_L33 tt d3) [(.ref (aA 8))])) _
    refine XS.iloadN Xn9.here hx rfl (hb hby own_d11_94) rfl ?_
    show Steps p.tables e below (Tn9.setTop (mkF m 95 (own_L33 tt d3) [(.int 0), (.ref (aA 8))])) _
    refine XT.dup2 Xn9.here hx rfl (hb hby own_d11_95) rfl rfl rfl ?_
    refine own_ldI Xn9 hx hZ en9 (own_pk Bn8 8 (by decide)) 0 (by decide) (v := (.int 0)) at_8_0 (g := (mkF m 96 (own_L33 tt d3) [(.int 0), (.ref (aA 8)), (.int 0), (.ref (aA 8))])) rfl rfl (hb hby own_d11_96) _ ?_
    refine XS.iconst Xn9.here hx rfl (hb hby own_d11_97) ?_
    refine XS.iadd Xn9.here hx rfl (hb hby own_d11_98) rfl ?_
    show Steps p.tables e below (Tn9.setTop (mkF m 99 (own_L33 tt d3) [(.int 1), (.int 0), (.ref (aA 8))])) _
    refine stn10 _ ?_
    show Steps p.tables e below (Tn10.setTop (mkF m 100 (own_L33 tt d3) [])) _
    exact Xn10.returnOut hx Bd.returns (hb hby own_d11_100) hr
  · show own_Q11a Z tt aA aK aF aV aJ d3 y0 k_y0 y1 k_y1 h0 n0 _ Tn10.heap _
    rw [en10]
    exact ⟨rfl, Nn10, Bn10⟩
theorem own_pd4 : parseMethodDescriptor "(IID)V" = some ⟨[.int, .int, .double], none⟩ := by decide +kernel
def own_L34 (x0 : Addr) (x1 : Addr) (x2 : Addr) (x3 : UInt64) : Array Slot := #[.val (.ref x0), .val (.ref x1), .val (.ref x2), .val (.double x3), .second, .val (.int 0), .val (.int 1)]
theorem own_d13_0 : decode prog_29_method_31_code 0 = .ok (.aload_n 0, 1) := by decide +kernel
theorem own_d13_1 : decode prog_29_method_31_code 1 = .ok (.getfield 24, 3) := by decide +kernel
theorem own_d13_4 : decode prog_29_method_31_code 4 = .ok (.iload_n 1, 1) := by decide +kernel
theorem own_d13_5 : decode prog_29_method_31_code 5 = .ok (.iaload, 1) := by decide +kernel
theorem own_d13_6 : decode prog_29_method_31_code 6 = .ok (.ifCond .ge 20, 3) := by decide +kernel
theorem own_d13_9 : decode prog_29_method_31_code 9 = .ok (.aload_n 0, 1) := by decide +kernel
theorem own_d13_10 : decode prog_29_method_31_code 10 = .ok (.getfield 27, 3) := by decide +kernel
theorem own_d13_13 : decode prog_29_method_31_code 13 = .ok (.iload_n 1, 1) := by decide +kernel
theorem own_d13_14 : decode prog_29_method_31_code 14 = .ok (.daload, 1) := by decide +kernel
theorem own_d13_15 : decode prog_29_method_31_code 15 = .ok (.ldc2_w 128, 3) := by decide +kernel
theorem own_d13_18 : decode prog_29_method_31_code 18 = .ok (.dcmp .g, 1) := by decide +kernel
theorem own_d13_19 : decode prog_29_method_31_code 19 = .ok (.ifCond .ge 7, 3) := by decide +kernel
theorem own_d13_26 : decode prog_29_method_31_code 26 = .ok (.iconst 0, 1) := by decide +kernel
theorem own_d13_27 : decode prog_29_method_31_code 27 = .ok (.ireturn, 1) := by decide +kernel
theorem own_ef13a (m : MethodId) (tt : Addr) : entryFrame m #[(.ref tt), (.int 0)] 2 = mkF m 0 #[.val (.ref tt), .val (.int 0)] [] := by first | (simp [entryFrame, mkF, argsToLocals, Value.category]; done) | rfl
def own_Q13a (Z : State) (tt : Addr) (aA : Nat → Addr) (aK : Nat → ClassId) (aF : Nat → Nat → Value) (aV : Nat → Value) (aJ : List own_e) (h0 : Heap) (n0 : Nat) (v : Option Value) (h : Heap) (L : List Loc) : Prop := v = some (.int 0) ∧ Fr n0 L ∧ own_R 15 Z n0 h tt aA aK aF aV (aJ)
set_option maxRecDepth 65536 in
set_option maxHeartbeats 40000000 in
theorem own_rm13a (l : Launch) (Z : State) (a0 : Array Value) (hw : ∀ d ∈ tables_1, d.before a0 Z = true) (ws : List Jvm.Cond) (tt : Addr) (aA : Nat → Addr) (aK : Nat → ClassId) (aF : Nat → Nat → Value) (aV : Nat → Value) (aJ : List own_e) (h0 : Heap) (n0 : Nat) (Z0 : n0 ≤ h0.size) (B0 : own_R 15 Z n0 h0 tt aA aK aF aV (aJ)) (at_3_0 : aF 3 0 = (.int (-1 : Int32))) (at_4_0 : aF 4 0 = (.double 0)) (hc19 : ¬ ((cmpValue (FP.dcmp (0 : UInt64) (13695778570484766357 : UInt64)) .g) < (0 : Int32))) :
    MetFree l (⟨"com/example/placewright/placewright/solver/RevisedSimplex", "prices", "(I)Z"⟩ : MethodName) (head1 (Jvm.Cond.code (⟨"com/example/placewright/placewright/solver/RevisedSimplex", "prices", "(I)Z"⟩ : MethodName) prog_29_method_31_code 2 (some .boolean) :: ws) ({ frames := 0, cells := 0, slots := 0, locals := 0 } : Room)) (fun a U => a = #[(.ref tt), (.int 0)] ∧ Z.Warmed39 U.vm ∧ U.heap = h0) (fun _ _ _ _ _ => True) (fun _ U o U' => ∃ v L, o = .returned v ∧ own_Q13a Z tt aA aK aF aV aJ h0 n0 v U'.heap L ∧ FrameEnd U o U' L ({ frames := 0, cells := 0, slots := 0, locals := 0 } : Room).cells ({ frames := 0, cells := 0, slots := 0, locals := 0 } : Room).slots) := by
  refine MetFree.of_bodySF (plainFor_of_name own_pn4) hisR ?_
  intro p e s m args below meth c s₁ Bd hml0 hP hK
  obtain ⟨rfl, hZ, hh⟩ := hP
  have hx := Bd.exec
  have hby := Bd.bytes
  have hml : c.maxLocals = 2 := hml0
  have hown : s.vm.findClass "com/example/placewright/placewright/solver/RevisedSimplex" = some m.cls := findClass_of_methodNamed Bd.named
  have hnm := (name_of_methodNamed Bd.named Bd.method).1
  have X0 : Stand p l e ({ frames := 0, cells := 0, slots := 0, locals := 0 } : Room) s m #[(.ref tt), (.int 0)] below meth c s₁ [] 0 0 := Stand.of_body Bd
  have e0 : s₁.heap = h0 := by rw [← hh, Bd.state]; rfl
  have N0 := Fr.nil n0
  have Zr : h0.size ≤ h0.size := Nat.le_refl _
  have pre0 : ∀ t, Steps p.tables e below (s₁.setTop (mkF m 0 #[.val (.ref tt), .val (.int 0)] [])) t → Steps p.tables e below (s₁.setTop (entryFrame m #[(.ref tt), (.int 0)] 2)) t := fun t k => castTop (own_ef13a m tt) k
  obtain ⟨Tn1, Xn1, en1, stn1⟩ := getF X0 hx hZ hown (host := "") (Or.inl (own_W hw 26 rfl)) Via.refl e0 (own_ga B0 3 (by decide) (by decide)) (g := (mkF m 1 #[.val (.ref tt), .val (.int 0)] [(.ref tt)])) rfl rfl (hb hby own_d13_1)
  obtain ⟨Tn2, Xn2, en2, stn2⟩ := getF Xn1 hx hZ hown (host := "") (Or.inl (own_W hw 28 rfl)) Via.refl en1 (own_ga B0 4 (by decide) (by decide)) (g := (mkF m 10 #[.val (.ref tt), .val (.int 0)] [(.ref tt)])) rfl rfl (hb hby own_d13_10)
  obtain ⟨fs, hr, hrun, hended, hW, hsame⟩ := Xn2.leave (v := some (.int 0)) (fun h => by rw [Bd.returns] at h; cases h)
  refine ⟨_, _, pre0 _ (?_), hrun, hended, _, _, rfl, ?_, ⟨_, rfl⟩, hW, hsame.mono (by decide) (by decide)⟩
  · show Steps p.tables e below (s₁.setTop (mkF m 0 #[.val (.ref tt), .val (.int 0)] [])) _
    refine XS.aloadN X0.here hx rfl (hb hby own_d13_0) rfl rfl ?_
    refine stn1 _ ?_
    refine XS.iloadN Xn1.here hx rfl (hb hby own_d13_4) rfl ?_
    refine own_ldI Xn1 hx hZ en1 (own_pk B0 3 (by decide)) 0 (by decide) (v := (.int (-1 : Int32))) at_3_0 (g := (mkF m 5 #[.val (.ref tt), .val (.int 0)] [(.int 0), (.ref (aA 3))])) rfl rfl (hb hby own_d13_5) _ ?_
    show Steps p.tables e below (Tn1.setTop (mkF m 6 #[.val (.ref tt), .val (.int 0)] [(.int (-1 : Int32))])) _
    refine XS.ifNo Xn1.here hx rfl (hb hby own_d13_6) rfl (XT.i0_ge_f (by decide : (-1 : Int32) < (0 : Int32))) ?_
    refine XS.aloadN Xn1.here hx rfl (hb hby own_d13_9) rfl rfl ?_
    refine stn2 _ ?_
    show Steps p.tables e below (Tn2.setTop (mkF m 13 #[.val (.ref tt), .val (.int 0)] [(.ref (aA 4))])) _
    refine XS.iloadN Xn2.here hx rfl (hb hby own_d13_13) rfl ?_
    refine own_ldD Xn2 hx hZ en2 (own_pk B0 4 (by decide)) 0 (by decide) (v := (.double 0)) at_4_0 (g := (mkF m 14 #[.val (.ref tt), .val (.int 0)] [(.int 0), (.ref (aA 4))])) rfl rfl (hb hby own_d13_14) _ ?_
    refine Xn2.ldc2DoubleC hx hown (mvT hZ (own_W hw 134 rfl)) (g := (mkF m 15 #[.val (.ref tt), .val (.int 0)] [(.double 0)])) rfl (hb hby own_d13_15) _ ?_
    show Steps p.tables e below (Tn2.setTop (mkF m 18 #[.val (.ref tt), .val (.int 0)] [(.double 13695778570484766357), (.double 0)])) _
    refine XS.dcmpS Xn2.here hx rfl (hb hby own_d13_18) rfl rfl ?_
    refine XS.ifYes Xn2.here hx rfl (pc0 := 19) (pc' := 26) rfl (hb hby own_d13_19) rfl (XT.i0_ge_t hc19) (by decide) (by decide) ?_
    refine XS.iconst Xn2.here hx rfl (hb hby own_d13_26) ?_
    show Steps p.tables e below (Tn2.setTop (mkF m 27 #[.val (.ref tt), .val (.int 0)] [(.int 0)])) _
    exact retN Xn2 hx (t := .boolean) Bd.returns (by simp) (hb hby own_d13_27) hr
  · show own_Q13a Z tt aA aK aF aV aJ h0 n0 _ Tn2.heap _
    rw [en2]
    exact ⟨rfl, N0, B0⟩
theorem own_pd5 : parseMethodDescriptor "(I)Z" = some ⟨[.int], some .boolean⟩ := by decide +kernel
theorem own_d12_0 : decode prog_29_method_32_code 0 = .ok (.aload_n 0, 1) := by decide +kernel
theorem own_d12_1 : decode prog_29_method_32_code 1 = .ok (.getfield 45, 3) := by decide +kernel
theorem own_d12_4 : decode prog_29_method_32_code 4 = .ok (.iload_n 1, 1) := by decide +kernel
theorem own_d12_5 : decode prog_29_method_32_code 5 = .ok (.baload, 1) := by decide +kernel
theorem own_d12_6 : decode prog_29_method_32_code 6 = .ok (.ifCond .ne 35, 3) := by decide +kernel
theorem own_d12_9 : decode prog_29_method_32_code 9 = .ok (.aload_n 0, 1) := by decide +kernel
theorem own_d12_10 : decode prog_29_method_32_code 10 = .ok (.iload_n 1, 1) := by decide +kernel
theorem own_d12_11 : decode prog_29_method_32_code 11 = .ok (.invokevirtual 331, 3) := by decide +kernel
theorem own_d12_14 : decode prog_29_method_32_code 14 = .ok (.ifCond .eq 27, 3) := by decide +kernel
theorem own_d12_41 : decode prog_29_method_32_code 41 = .ok (.return_, 1) := by decide +kernel
theorem own_ef12a (m : MethodId) (tt : Addr) : entryFrame m #[(.ref tt), (.int 0)] 2 = mkF m 0 #[.val (.ref tt), .val (.int 0)] [] := by first | (simp [entryFrame, mkF, argsToLocals, Value.category]; done) | rfl
def own_Q12a (Z : State) (tt : Addr) (aA : Nat → Addr) (aK : Nat → ClassId) (aF : Nat → Nat → Value) (aV : Nat → Value) (aJ : List own_e) (h0 : Heap) (n0 : Nat) (v : Option Value) (h : Heap) (L : List Loc) : Prop := v = none ∧ Fr n0 L ∧ own_R 15 Z n0 h tt aA aK aF aV (aJ)
set_option maxRecDepth 65536 in
set_option maxHeartbeats 40000000 in
theorem own_rm12a (l : Launch) (Z : State) (a0 : Array Value) (hw : ∀ d ∈ tables_1, d.before a0 Z = true) (ws : List Jvm.Cond) (tt : Addr) (aA : Nat → Addr) (aK : Nat → ClassId) (aF : Nat → Nat → Value) (aV : Nat → Value) (aJ : List own_e) (h0 : Heap) (n0 : Nat) (Z0 : n0 ≤ h0.size) (B0 : own_R 15 Z n0 h0 tt aA aK aF aV (aJ)) (at_10_0 : aF 10 0 = (.int 0)) (at_3_0 : aF 3 0 = (.int (-1 : Int32))) (at_4_0 : aF 4 0 = (.double 0)) (c11_hc19 : ¬ ((cmpValue (FP.dcmp (0 : UInt64) (13695778570484766357 : UInt64)) .g) < (0 : Int32))) :
    MetFree l (⟨"com/example/placewright/placewright/solver/RevisedSimplex", "list", "(I)V"⟩ : MethodName) (head1 (Jvm.Cond.code (⟨"com/example/placewright/placewright/solver/RevisedSimplex", "list", "(I)V"⟩ : MethodName) prog_29_method_32_code 2 none :: ws) ({ frames := 1, cells := 0, slots := 0, locals := 13 } : Room)) (fun a U => a = #[(.ref tt), (.int 0)] ∧ Z.Warmed39 U.vm ∧ U.heap = h0) (fun _ _ _ _ _ => True) (fun _ U o U' => ∃ v L, o = .returned v ∧ own_Q12a Z tt aA aK aF aV aJ h0 n0 v U'.heap L ∧ FrameEnd U o U' L ({ frames := 1, cells := 0, slots := 0, locals := 13 } : Room).cells ({ frames := 1, cells := 0, slots := 0, locals := 13 } : Room).slots) := by
  refine MetFree.of_bodySF (plainFor_of_name own_pn4) hisR ?_
  intro p e s m args below meth c s₁ Bd hml0 hP hK
  obtain ⟨rfl, hZ, hh⟩ := hP
  have hx := Bd.exec
  have hby := Bd.bytes
  have hml : c.maxLocals = 2 := hml0
  have hown : s.vm.findClass "com/example/placewright/placewright/solver/RevisedSimplex" = some m.cls := findClass_of_methodNamed Bd.named
  have hnm := (name_of_methodNamed Bd.named Bd.method).1
  have X0 : Stand p l e ({ frames := 1, cells := 0, slots := 0, locals := 13 } : Room) s m #[(.ref tt), (.int 0)] below meth c s₁ [] 0 0 := Stand.of_body Bd
  have e0 : s₁.heap = h0 := by rw [← hh, Bd.state]; rfl
  have N0 := Fr.nil n0
  have Zr : h0.size ≤ h0.size := Nat.le_refl _
  have pre0 : ∀ t, Steps p.tables e below (s₁.setTop (mkF m 0 #[.val (.ref tt), .val (.int 0)] [])) t → Steps p.tables e below (s₁.setTop (entryFrame m #[(.ref tt), (.int 0)] 2)) t := fun t k => castTop (own_ef12a m tt) k
  obtain ⟨Tn1, Xn1, en1, stn1⟩ := getF X0 hx hZ hown (host := "") (Or.inl (own_W hw 41 rfl)) Via.refl e0 (own_ga B0 10 (by decide) (by decide)) (g := (mkF m 1 #[.val (.ref tt), .val (.int 0)] [(.ref tt)])) rfl rfl (hb hby own_d12_1)
  obtain ⟨cqk2, qk2, qk2'⟩ := (own_R_exa B0).cell
  obtain ⟨_, _, ⟨Tk2, Lk2, kk2, nk2⟩, -, Xk2, ⟨Lck2, hQk2, lk2, yk2, zk2⟩, stk2⟩ := Xn1.privateBack hx (y := (⟨"com/example/placewright/placewright/solver/RevisedSimplex", "prices", "(I)Z"⟩ : MethodName)) hown (mvT hZ (own_W hw 163 rfl)) (mvT hZ (own_W hw 164 rfl)) (own_selP hZ (own_W hw 6 rfl) (own_W hw 165 rfl) (own_W hw 164 rfl) (by decide)) (Cond.privateMethod_at (mvP hZ (own_W hw 165 rfl) (args := #[]))) (mvT hZ (own_W hw 166 rfl)) (by decide) (backOf (W := 0) (own_rm13a l Z a0 hw [] tt aA aK _ _ (aJ) h0 n0 (own_R_sz B0) B0 at_3_0 at_4_0 c11_hc19) hZ (own_W hw 166 rfl) (own_W hw 7 rfl) (by decide) (by decide)) (g := (mkF m 11 #[.val (.ref tt), .val (.int 0)] [(.int 0), (.ref tt)])) rfl (by rw [hml]; rfl) (Steps.refl _) (a := tt) (by rw [en1]; exact qk2) qk2' (argsL := [(.int 0)]) (rest := []) (lenOf own_pd5 rfl) rfl (by show 2 * 0 + _ ≤ _; exact Nat.le_of_eq rfl) (hb hby own_d12_11) (fun _ _ => ⟨rfl, en1, (by decide : 0 + 0 ≤ _), (by decide : 0 + 0 ≤ _)⟩)
  dsimp only [Pt.U, Pt.locs, Pt.cells, Pt.slots] at Xk2 lk2 yk2 zk2 stk2 hQk2
  replace lk2 := lk2.symm; replace yk2 := yk2.symm; replace zk2 := zk2.symm; subst lk2 yk2 zk2
  obtain ⟨rfl, Nk2q, Bk2⟩ := hQk2
  have Nk2 := Fr.app N0 Nk2q
  obtain ⟨fs, hr, hrun, hended, hW, hsame⟩ := Xk2.leave (v := none) (fun _ => rfl)
  refine ⟨_, _, pre0 _ (?_), hrun, hended, _, _, rfl, ?_, ⟨_, rfl⟩, hW, hsame.mono (by decide) (by decide)⟩
  · show Steps p.tables e below (s₁.setTop (mkF m 0 #[.val (.ref tt), .val (.int 0)] [])) _
    refine XS.aloadN X0.here hx rfl (hb hby own_d12_0) rfl rfl ?_
    refine stn1 _ ?_
    refine XS.iloadN Xn1.here hx rfl (hb hby own_d12_4) rfl ?_
    refine own_ldZ Xn1 hx hZ en1 (own_pk B0 10 (by decide)) 0 (by decide) (v := (.int 0)) at_10_0 (g := (mkF m 5 #[.val (.ref tt), .val (.int 0)] [(.int 0), (.ref (aA 10))])) rfl rfl (hb hby own_d12_5) _ ?_
    show Steps p.tables e below (Tn1.setTop (mkF m 6 #[.val (.ref tt), .val (.int 0)] [(.int 0)])) _
    refine XS.ifNo Xn1.here hx rfl (hb hby own_d12_6) rfl (XT.i0_ne_f (by decide : (0 : Int32) = (0 : Int32))) ?_
    refine XS.aloadN Xn1.here hx rfl (hb hby own_d12_9) rfl rfl ?_
    refine XS.iloadN Xn1.here hx rfl (hb hby own_d12_10) rfl ?_
    refine stk2.trans ?_
    show Steps p.tables e below (Tk2.setTop (mkF m 14 #[.val (.ref tt), .val (.int 0)] [(.int 0)])) _
    refine XS.ifYes Xk2.here hx rfl (pc0 := 14) (pc' := 41) rfl (hb hby own_d12_14) rfl (XT.i0_eq_t (by decide : (0 : Int32) = (0 : Int32))) (by decide) (by decide) ?_
    show Steps p.tables e below (Tk2.setTop (mkF m 41 #[.val (.ref tt), .val (.int 0)] [])) _
    exact Xk2.returnOut hx Bd.returns (hb hby own_d12_41) hr
  · show own_Q12a Z tt aA aK aF aV aJ h0 n0 _ Tk2.heap _
    exact ⟨rfl, Nk2, Bk2⟩
theorem own_d10_0 : decode prog_29_method_2_code 0 = .ok (.aload_n 0, 1) := by decide +kernel
theorem own_d10_1 : decode prog_29_method_2_code 1 = .ok (.getfield 76, 3) := by decide +kernel
theorem own_d10_4 : decode prog_29_method_2_code 4 = .ok (.aload_n 0, 1) := by decide +kernel
theorem own_d10_5 : decode prog_29_method_2_code 5 = .ok (.getfield 21, 3) := by decide +kernel
theorem own_d10_8 : decode prog_29_method_2_code 8 = .ok (.arraylength, 1) := by decide +kernel
theorem own_d10_9 : decode prog_29_method_2_code 9 = .ok (.if_icmp .ne 121, 3) := by decide +kernel
theorem own_d10_130 : decode prog_29_method_2_code 130 = .ok (.aload_n 0, 1) := by decide +kernel
theorem own_d10_131 : decode prog_29_method_2_code 131 = .ok (.dup, 1) := by decide +kernel
theorem own_d10_132 : decode prog_29_method_2_code 132 = .ok (.getfield 76, 3) := by decide +kernel
theorem own_d10_135 : decode prog_29_method_2_code 135 = .ok (.dup_x1, 1) := by decide +kernel
theorem own_d10_136 : decode prog_29_method_2_code 136 = .ok (.iconst 1, 1) := by decide +kernel
theorem own_d10_137 : decode prog_29_method_2_code 137 = .ok (.iadd, 1) := by decide +kernel
theorem own_d10_138 : decode prog_29_method_2_code 138 = .ok (.putfield 76, 3) := by decide +kernel
theorem own_d10_141 : decode prog_29_method_2_code 141 = .ok (.istore 5, 2) := by decide +kernel
theorem own_d10_143 : decode prog_29_method_2_code 143 = .ok (.aload_n 0, 1) := by decide +kernel
theorem own_d10_144 : decode prog_29_method_2_code 144 = .ok (.getfield 11, 3) := by decide +kernel
theorem own_d10_147 : decode prog_29_method_2_code 147 = .ok (.iload 5, 2) := by decide +kernel
theorem own_d10_149 : decode prog_29_method_2_code 149 = .ok (.aload_n 1, 1) := by decide +kernel
theorem own_d10_150 : decode prog_29_method_2_code 150 = .ok (.invokevirtual 96, 3) := by decide +kernel
theorem own_d10_153 : decode prog_29_method_2_code 153 = .ok (.checkcast 9, 3) := by decide +kernel
theorem own_d10_156 : decode prog_29_method_2_code 156 = .ok (.aastore, 1) := by decide +kernel
theorem own_d10_157 : decode prog_29_method_2_code 157 = .ok (.aload_n 0, 1) := by decide +kernel
theorem own_d10_158 : decode prog_29_method_2_code 158 = .ok (.getfield 17, 3) := by decide +kernel
theorem own_d10_161 : decode prog_29_method_2_code 161 = .ok (.iload 5, 2) := by decide +kernel
theorem own_d10_163 : decode prog_29_method_2_code 163 = .ok (.aload_n 2, 1) := by decide +kernel
theorem own_d10_164 : decode prog_29_method_2_code 164 = .ok (.invokevirtual 100, 3) := by decide +kernel
theorem own_d10_167 : decode prog_29_method_2_code 167 = .ok (.checkcast 15, 3) := by decide +kernel
theorem own_d10_170 : decode prog_29_method_2_code 170 = .ok (.aastore, 1) := by decide +kernel
theorem own_d10_171 : decode prog_29_method_2_code 171 = .ok (.iconst 0, 1) := by decide +kernel
theorem own_d10_172 : decode prog_29_method_2_code 172 = .ok (.istore 6, 2) := by decide +kernel
theorem own_d10_174 : decode prog_29_method_2_code 174 = .ok (.iload 6, 2) := by decide +kernel
theorem own_d10_176 : decode prog_29_method_2_code 176 = .ok (.aload_n 1, 1) := by decide +kernel
theorem own_d10_177 : decode prog_29_method_2_code 177 = .ok (.arraylength, 1) := by decide +kernel
theorem own_d10_178 : decode prog_29_method_2_code 178 = .ok (.if_icmp .ge 23, 3) := by decide +kernel
theorem own_d10_181 : decode prog_29_method_2_code 181 = .ok (.aload_n 0, 1) := by decide +kernel
theorem own_d10_182 : decode prog_29_method_2_code 182 = .ok (.aload_n 1, 1) := by decide +kernel
theorem own_d10_183 : decode prog_29_method_2_code 183 = .ok (.iload 6, 2) := by decide +kernel
theorem own_d10_185 : decode prog_29_method_2_code 185 = .ok (.iaload, 1) := by decide +kernel
theorem own_d10_186 : decode prog_29_method_2_code 186 = .ok (.iload 5, 2) := by decide +kernel
theorem own_d10_188 : decode prog_29_method_2_code 188 = .ok (.aload_n 2, 1) := by decide +kernel
theorem own_d10_189 : decode prog_29_method_2_code 189 = .ok (.iload 6, 2) := by decide +kernel
theorem own_d10_191 : decode prog_29_method_2_code 191 = .ok (.daload, 1) := by decide +kernel
theorem own_d10_192 : decode prog_29_method_2_code 192 = .ok (.invokevirtual 101, 3) := by decide +kernel
theorem own_d10_195 : decode prog_29_method_2_code 195 = .ok (.iinc 6 1, 3) := by decide +kernel
theorem own_d10_198 : decode prog_29_method_2_code 198 = .ok (.goto (-24), 3) := by decide +kernel
theorem own_d10_201 : decode prog_29_method_2_code 201 = .ok (.aload_n 0, 1) := by decide +kernel
theorem own_d10_202 : decode prog_29_method_2_code 202 = .ok (.getfield 21, 3) := by decide +kernel
theorem own_d10_205 : decode prog_29_method_2_code 205 = .ok (.iload 5, 2) := by decide +kernel
theorem own_d10_207 : decode prog_29_method_2_code 207 = .ok (.dload_n 3, 1) := by decide +kernel
theorem own_d10_208 : decode prog_29_method_2_code 208 = .ok (.dastore, 1) := by decide +kernel
theorem own_d10_209 : decode prog_29_method_2_code 209 = .ok (.aload_n 0, 1) := by decide +kernel
theorem own_d10_210 : decode prog_29_method_2_code 210 = .ok (.getfield 24, 3) := by decide +kernel
theorem own_d10_213 : decode prog_29_method_2_code 213 = .ok (.iload 5, 2) := by decide +kernel
theorem own_d10_215 : decode prog_29_method_2_code 215 = .ok (.iconst (-1), 1) := by decide +kernel
theorem own_d10_216 : decode prog_29_method_2_code 216 = .ok (.iastore, 1) := by decide +kernel
theorem own_d10_217 : decode prog_29_method_2_code 217 = .ok (.aload_n 0, 1) := by decide +kernel
theorem own_d10_218 : decode prog_29_method_2_code 218 = .ok (.getfield 30, 3) := by decide +kernel
theorem own_d10_221 : decode prog_29_method_2_code 221 = .ok (.iload 5, 2) := by decide +kernel
theorem own_d10_223 : decode prog_29_method_2_code 223 = .ok (.dconst 1, 1) := by decide +kernel
theorem own_d10_224 : decode prog_29_method_2_code 224 = .ok (.dastore, 1) := by decide +kernel
theorem own_d10_225 : decode prog_29_method_2_code 225 = .ok (.aload_n 0, 1) := by decide +kernel
theorem own_d10_226 : decode prog_29_method_2_code 226 = .ok (.getfield 27, 3) := by decide +kernel
theorem own_d10_229 : decode prog_29_method_2_code 229 = .ok (.iload 5, 2) := by decide +kernel
theorem own_d10_231 : decode prog_29_method_2_code 231 = .ok (.aload_n 0, 1) := by decide +kernel
theorem own_d10_232 : decode prog_29_method_2_code 232 = .ok (.getfield 105, 3) := by decide +kernel
theorem own_d10_235 : decode prog_29_method_2_code 235 = .ok (.ifCond .eq 7, 3) := by decide +kernel
theorem own_d10_238 : decode prog_29_method_2_code 238 = .ok (.dconst 0, 1) := by decide +kernel
theorem own_d10_239 : decode prog_29_method_2_code 239 = .ok (.goto 9, 3) := by decide +kernel
theorem own_d10_248 : decode prog_29_method_2_code 248 = .ok (.dastore, 1) := by decide +kernel
theorem own_d10_249 : decode prog_29_method_2_code 249 = .ok (.aload_n 0, 1) := by decide +kernel
theorem own_d10_250 : decode prog_29_method_2_code 250 = .ok (.iload 5, 2) := by decide +kernel
theorem own_d10_252 : decode prog_29_method_2_code 252 = .ok (.invokevirtual 112, 3) := by decide +kernel
theorem own_d10_255 : decode prog_29_method_2_code 255 = .ok (.iload 5, 2) := by decide +kernel
theorem own_d10_257 : decode prog_29_method_2_code 257 = .ok (.ireturn, 1) := by decide +kernel
theorem own_ef10a (m : MethodId) (tt : Addr) (r1 : Addr) (r2 : Addr) (d3 : UInt64) : entryFrame m #[(.ref tt), (.ref r1), (.ref r2), (.double d3)] 7 = mkF m 0 #[.val (.ref tt), .val (.ref r1), .val (.ref r2), .val (.double d3), .second, .unset, .unset] [] := by first | (simp [entryFrame, mkF, argsToLocals, Value.category]; done) | rfl
def own_Q10a (Z : State) (tt : Addr) (aA : Nat → Addr) (aK : Nat → ClassId) (aF : Nat → Nat → Value) (aV : Nat → Value) (aJ : List own_e) (f_r1 : Nat → Value) (r1 : Addr) (k_r1 : ClassId) (f_r2 : Nat → Value) (r2 : Addr) (k_r2 : ClassId) (d3 : UInt64) (y2 : Addr) (k_y2 : ClassId) (y3 : Addr) (k_y3 : ClassId) (x_r2_0 : UInt64) (h0 : Heap) (n0 : Nat) (v : Option Value) (h : Heap) (L : List Loc) : Prop := ∃ (bn10 : Addr) (bn6 : Addr), v = some (.int 0) ∧ Fr n0 L ∧ own_R 15 Z n0 h tt aA aK (own_up2 (own_up2 (own_up2 (own_up2 (own_up2 (own_up2 (own_up2 aF 0 0 (.ref bn6)) 1 0 (.ref bn10)) 8 0 (.int 1)) 2 0 (.double d3)) 3 0 (.int (-1 : Int32))) 5 0 (.double 4607182418800017408)) 4 0 (.double 0)) (own_up aV 15 (.int 1)) (⟨bn10, k_r2, .double, 1, none⟩ :: ⟨bn6, k_r1, .int, 1, none⟩ :: ⟨r1, k_r1, .int, 1, some f_r1⟩ :: ⟨r2, k_r2, .double, 1, some f_r2⟩ :: ⟨y2, k_y2, .int, 2, none⟩ :: ⟨y3, k_y3, .double, 2, none⟩ :: aJ)
set_option maxRecDepth 65536 in
set_option maxHeartbeats 40000000 in
theorem own_rm10a (l : Launch) (Z : State) (a0 : Array Value) (hw : ∀ d ∈ tables_1, d.before a0 Z = true) (ws : List Jvm.Cond) (tt : Addr) (aA : Nat → Addr) (aK : Nat → ClassId) (aF : Nat → Nat → Value) (aV : Nat → Value) (aJ : List own_e) (f_r1 : Nat → Value) (r1 : Addr) (k_r1 : ClassId) (f_r2 : Nat → Value) (r2 : Addr) (k_r2 : ClassId) (d3 : UInt64) (y2 : Addr) (k_y2 : ClassId) (y3 : Addr) (k_y3 : ClassId) (x_r2_0 : UInt64) (h0 : Heap) (n0 : Nat) (Z0 : n0 ≤ h0.size) (B0 : own_R 15 Z n0 h0 tt aA aK aF aV (⟨r1, k_r1, .int, 1, some f_r1⟩ :: ⟨r2, k_r2, .double, 1, some f_r2⟩ :: ⟨y2, k_y2, .int, 2, none⟩ :: ⟨y3, k_y3, .double, 2, none⟩ :: aJ)) (vt_15 : aV 15 = (.int 0)) (et_r1_0 : f_r1 0 = (.int 0)) (et_r2_0 : f_r2 0 = (.double x_r2_0)) (at_6_0 : aF 6 0 = (.ref y2)) (at_7_0 : aF 7 0 = (.ref y3)) (at_8_0 : aF 8 0 = (.int 0)) (vt_19 : aV 19 = (.int 1)) (at_10_0 : aF 10 0 = (.int 0)) (c252_c11_hc19 : ¬ ((cmpValue (FP.dcmp (0 : UInt64) (13695778570484766357 : UInt64)) .g) < (0 : Int32))) :
    MetFree l (⟨"com/example/placewright/placewright/solver/RevisedSimplex", "addColumn", "([I[DD)I"⟩ : MethodName) (head1 (Jvm.Cond.code (⟨"com/example/placewright/placewright/solver/RevisedSimplex", "addColumn", "([I[DD)I"⟩ : MethodName) prog_29_method_2_code 7 (some .int) :: ws) ({ frames := 2, cells := 2, slots := 2, locals := 26 } : Room)) (fun a U => a = #[(.ref tt), (.ref r1), (.ref r2), (.double d3)] ∧ Z.Warmed39 U.vm ∧ U.heap = h0) (fun _ _ _ _ _ => True) (fun _ U o U' => ∃ v L, o = .returned v ∧ own_Q10a Z tt aA aK aF aV aJ f_r1 r1 k_r1 f_r2 r2 k_r2 d3 y2 k_y2 y3 k_y3 x_r2_0 h0 n0 v U'.heap L ∧ FrameEnd U o U' L ({ frames := 2, cells := 2, slots := 2, locals := 26 } : Room).cells ({ frames := 2, cells := 2, slots := 2, locals := 26 } : Room).slots) := by
  refine MetFree.of_bodySF (plainFor_of_name own_pn4) hisR ?_
  intro p e s m args below meth c s₁ Bd hml0 hP hK
  obtain ⟨rfl, hZ, hh⟩ := hP
  have hx := Bd.exec
  have hby := Bd.bytes
  have hml : c.maxLocals = 7 := hml0
  have hown : s.vm.findClass "com/example/placewright/placewright/solver/RevisedSimplex" = some m.cls := findClass_of_methodNamed Bd.named
  have hnm := (name_of_methodNamed Bd.named Bd.method).1
  have X0 : Stand p l e ({ frames := 2, cells := 2, slots := 2, locals := 26 } : Room) s m #[(.ref tt), (.ref r1), (.ref r2), (.double d3)] below meth c s₁ [] 0 0 := Stand.of_body Bd
  have e0 : s₁.heap = h0 := by rw [← hh, Bd.state]; rfl
  have N0 := Fr.nil n0
  have Zr : h0.size ≤ h0.size := Nat.le_refl _
  have pre0 : ∀ t, Steps p.tables e below (s₁.setTop (mkF m 0 #[.val (.ref tt), .val (.ref r1), .val (.ref r2), .val (.double d3), .second, .unset, .unset] [])) t → Steps p.tables e below (s₁.setTop (entryFrame m #[(.ref tt), (.ref r1), (.ref r2), (.double d3)] 7)) t := fun t k => castTop (own_ef10a m tt r1 r2 d3) k
  obtain ⟨Tn1, Xn1, en1, stn1⟩ := getF X0 hx hZ hown (host := "") (Or.inl (own_W hw 142 rfl)) Via.refl e0 (own_gs (v := (.int 0)) B0 15 (by decide) vt_15) (g := (mkF m 1 (own_L30 tt r1 r2 d3) [(.ref tt)])) rfl rfl (hb hby own_d10_1)
  obtain ⟨Tn2, Xn2, en2, stn2⟩ := getF Xn1 hx hZ hown (host := "") (Or.inl (own_W hw 23 rfl)) Via.refl en1 (own_ga B0 2 (by decide) (by decide)) (g := (mkF m 5 (own_L30 tt r1 r2 d3) [(.ref tt), (.int 0)])) rfl rfl (hb hby own_d10_5)
  obtain ⟨Tn3, Xn3, en3, stn3⟩ := getF Xn2 hx hZ hown (host := "") (Or.inl (own_W hw 142 rfl)) Via.refl en2 (own_gs (v := (.int 0)) B0 15 (by decide) vt_15) (g := (mkF m 132 (own_L30 tt r1 r2 d3) [(.ref tt), (.ref tt)])) rfl rfl (hb hby own_d10_132)
  obtain ⟨Tn4, hn4, Ln4, Xn4, en4, Bn4, Nn4, stn4⟩ := own_pu Xn3 hx hZ hown 15 (own_W hw 142 rfl) en3 B0 N0 (own_sS hw) (by decide) (by decide) (Or.inl (own_W hw 143 rfl)) (own_W hw 6 rfl) (v' := (.int 1)) rfl rfl (g := (mkF m 138 (own_L30 tt r1 r2 d3) [(.int 1), (.ref tt), (.int 0)])) rfl rfl (hb hby own_d10_138)
  obtain ⟨Tn5, Xn5, en5, stn5⟩ := getF Xn4 hx hZ hown (host := "") (Or.inl (own_W hw 16 rfl)) Via.refl en4 (own_ga Bn4 0 (by decide) (by decide)) (g := (mkF m 144 (own_L31 tt r1 r2 d3) [(.ref tt)])) rfl rfl (hb hby own_d10_144)
  obtain ⟨Tn6, hn6, bn6, Xn6, en6, Bn6, stn6⟩ := own_cl Xn5 hx hZ hown (own_W hw 144 rfl) (own_W hw 145 rfl) (own_W hw 149 rfl) (own_W hw 147 rfl) (own_W hw 148 rfl) (own_W hw 150 rfl) en5 Bn4 0 rfl rfl (fun _ => trivial) (g := (mkF m 150 (own_L31 tt r1 r2 d3) [(.ref r1), (.int 0), (.ref (aA 0))])) rfl (by rw [hml]; rfl) rfl (hb hby own_d10_150) (by decide) (W := 2) (cap := 1) (by show 2 * 0 + _ ≤ _; exact Nat.le_of_eq rfl) (by decide) (by decide) (by decide) (by decide)
  obtain ⟨Tn7, Xn7, en7, stn7⟩ := own_ca Xn6 hx hZ hown (own_W hw 14 rfl) en6 (own_en (m := 0) Bn6 rfl) rfl (g := (mkF m 153 (own_L31 tt r1 r2 d3) [(.ref bn6), (.int 0), (.ref (aA 0))])) rfl rfl (hb hby own_d10_153)
  obtain ⟨Tn8, hn8, Ln8, Xn8, en8, Bn8, Nn8, stn8⟩ := own_stR Xn7 hx hZ en7 Bn6 Nn4 0 0 0 (by decide) rfl (Or.inl ⟨rfl, rfl⟩) rfl (by decide) (g := (mkF m 156 (own_L31 tt r1 r2 d3) [(.ref bn6), (.int 0), (.ref (aA 0))])) rfl rfl (hb hby own_d10_156)
  obtain ⟨Tn9, Xn9, en9, stn9⟩ := getF Xn8 hx hZ hown (host := "") (Or.inl (own_W hw 20 rfl)) Via.refl en8 (own_ga Bn8 1 (by decide) (by decide)) (g := (mkF m 158 (own_L31 tt r1 r2 d3) [(.ref tt)])) rfl rfl (hb hby own_d10_158)
  obtain ⟨Tn10, hn10, bn10, Xn10, en10, Bn10, stn10⟩ := own_cl Xn9 hx hZ hown (own_W hw 151 rfl) (own_W hw 152 rfl) (own_W hw 149 rfl) (own_W hw 147 rfl) (own_W hw 153 rfl) (own_W hw 154 rfl) en9 Bn8 2 rfl rfl (fun _ => trivial) (g := (mkF m 164 (own_L31 tt r1 r2 d3) [(.ref r2), (.int 0), (.ref (aA 1))])) rfl (by rw [hml]; rfl) rfl (hb hby own_d10_164) (by decide) (W := 2) (cap := 1) (by show 2 * 0 + _ ≤ _; exact Nat.le_of_eq rfl) (by decide) (by decide) (by decide) (by decide)
  obtain ⟨Tn11, Xn11, en11, stn11⟩ := own_ca Xn10 hx hZ hown (own_W hw 18 rfl) en10 (own_en (m := 0) Bn10 rfl) rfl (g := (mkF m 167 (own_L31 tt r1 r2 d3) [(.ref bn10), (.int 0), (.ref (aA 1))])) rfl rfl (hb hby own_d10_167)
  obtain ⟨Tn12, hn12, Ln12, Xn12, en12, Bn12, Nn12, stn12⟩ := own_stR Xn11 hx hZ en11 Bn10 Nn8 1 0 0 (by decide) rfl (Or.inr ⟨rfl, rfl⟩) rfl (by decide) (g := (mkF m 170 (own_L31 tt r1 r2 d3) [(.ref bn10), (.int 0), (.ref (aA 1))])) rfl rfl (hb hby own_d10_170)
  have B14 : own_R 15 Z n0 hn12 tt aA aK _ _ (⟨y2, k_y2, .int, 2, none⟩ :: ⟨y3, k_y3, .double, 2, none⟩ :: ⟨bn10, k_r2, .double, 1, none⟩ :: ⟨bn6, k_r1, .int, 1, none⟩ :: ⟨r1, k_r1, .int, 1, some f_r1⟩ :: ⟨r2, k_r2, .double, 1, some f_r2⟩ :: aJ) := own_R_pick Bn12 6 [4, 5, 0, 1, 2, 3] trivial (by decide) (by decide)
  obtain ⟨cqk13, qk13, qk13'⟩ := (own_R_exa B14).cell
  obtain ⟨_, _, ⟨Tk13, Lk13, kk13, nk13⟩, -, Xk13, ⟨Lck13, hQk13, lk13, yk13, zk13⟩, stk13⟩ := Xn12.privateBack hx (y := (⟨"com/example/placewright/placewright/solver/RevisedSimplex", "addToRow", "(IID)V"⟩ : MethodName)) hown (mvT hZ (own_W hw 155 rfl)) (mvT hZ (own_W hw 156 rfl)) (own_selP hZ (own_W hw 6 rfl) (own_W hw 157 rfl) (own_W hw 156 rfl) (by decide)) (Cond.privateMethod_at (mvP hZ (own_W hw 157 rfl) (args := #[]))) (mvT hZ (own_W hw 158 rfl)) (by decide) (backOf (W := 0) (own_rm11a l Z a0 hw [] tt aA aK _ _ (⟨bn10, k_r2, .double, 1, none⟩ :: ⟨bn6, k_r1, .int, 1, none⟩ :: ⟨r1, k_r1, .int, 1, some f_r1⟩ :: ⟨r2, k_r2, .double, 1, some f_r2⟩ :: aJ) x_r2_0 y2 k_y2 y3 k_y3 hn12 n0 (own_R_sz B14) B14 at_8_0 at_6_0 at_7_0) hZ (own_W hw 158 rfl) (own_W hw 7 rfl) (by decide) (by decide)) (g := (mkF m 192 (own_L32 tt r1 r2 d3) [(.double x_r2_0), (.int 0), (.int 0), (.ref tt)])) rfl (by rw [hml]; rfl) (Steps.refl _) (a := tt) (by rw [en12]; exact qk13) qk13' (argsL := [(.int 0), (.int 0), (.double x_r2_0)]) (rest := []) (lenOf own_pd4 rfl) rfl (by show 2 * 0 + _ ≤ _; exact Nat.le_of_eq rfl) (hb hby own_d10_192) (fun _ _ => ⟨rfl, en12, (by decide : 2 + 0 ≤ _), (by decide : 2 + 0 ≤ _)⟩)
  dsimp only [Pt.U, Pt.locs, Pt.cells, Pt.slots] at Xk13 lk13 yk13 zk13 stk13 hQk13
  replace lk13 := lk13.symm; replace yk13 := yk13.symm; replace zk13 := zk13.symm; subst lk13 yk13 zk13
  obtain ⟨rfl, Nk13q, Bk13⟩ := hQk13
  have Nk13 := Fr.app Nn12 Nk13q
  obtain ⟨Tn15, Xn15, en15, stn15⟩ := getF Xk13 hx hZ hown (host := "") (Or.inl (own_W hw 23 rfl)) Via.refl rfl (own_ga Bk13 2 (by decide) (by decide)) (g := (mkF m 202 (own_L34 tt r1 r2 d3) [(.ref tt)])) rfl rfl (hb hby own_d10_202)
  obtain ⟨Tn16, hn16, Ln16, Xn16, en16, Bn16, Nn16, stn16⟩ := own_stD Xn15 hx hZ en15 Bk13 Nk13 2 0 (by decide) rfl (by decide) (g := (mkF m 208 (own_L34 tt r1 r2 d3) [(.double d3), (.int 0), (.ref (aA 2))])) rfl rfl (hb hby own_d10_208)
  obtain ⟨Tn17, Xn17, en17, stn17⟩ := getF Xn16 hx hZ hown (host := "") (Or.inl (own_W hw 26 rfl)) Via.refl en16 (own_ga Bn16 3 (by decide) (by decide)) (g := (mkF m 210 (own_L34 tt r1 r2 d3) [(.ref tt)])) rfl rfl (hb hby own_d10_210)
  obtain ⟨Tn18, hn18, Ln18, Xn18, en18, Bn18, Nn18, stn18⟩ := own_stI Xn17 hx hZ en17 Bn16 Nn16 3 0 (by decide) rfl (by decide) (g := (mkF m 216 (own_L34 tt r1 r2 d3) [(.int (-1 : Int32)), (.int 0), (.ref (aA 3))])) rfl rfl (hb hby own_d10_216)
  obtain ⟨Tn19, Xn19, en19, stn19⟩ := getF Xn18 hx hZ hown (host := "") (Or.inl (own_W hw 30 rfl)) Via.refl en18 (own_ga Bn18 5 (by decide) (by decide)) (g := (mkF m 218 (own_L34 tt r1 r2 d3) [(.ref tt)])) rfl rfl (hb hby own_d10_218)
  obtain ⟨Tn20, hn20, Ln20, Xn20, en20, Bn20, Nn20, stn20⟩ := own_stD Xn19 hx hZ en19 Bn18 Nn18 5 0 (by decide) rfl (by decide) (g := (mkF m 224 (own_L34 tt r1 r2 d3) [(.double 4607182418800017408), (.int 0), (.ref (aA 5))])) rfl rfl (hb hby own_d10_224)
  obtain ⟨Tn21, Xn21, en21, stn21⟩ := getF Xn20 hx hZ hown (host := "") (Or.inl (own_W hw 28 rfl)) Via.refl en20 (own_ga Bn20 4 (by decide) (by decide)) (g := (mkF m 226 (own_L34 tt r1 r2 d3) [(.ref tt)])) rfl rfl (hb hby own_d10_226)
  obtain ⟨Tn22, Xn22, en22, stn22⟩ := getF Xn21 hx hZ hown (host := "") (Or.inl (own_W hw 135 rfl)) Via.refl en21 (own_gs (v := (.int 1)) Bn20 19 (by decide) vt_19) (g := (mkF m 232 (own_L34 tt r1 r2 d3) [(.ref tt), (.int 0), (.ref (aA 4))])) rfl rfl (hb hby own_d10_232)
  obtain ⟨Tn23, hn23, Ln23, Xn23, en23, Bn23, Nn23, stn23⟩ := own_stD Xn22 hx hZ en22 Bn20 Nn20 4 0 (by decide) rfl (by decide) (g := (mkF m 248 (own_L34 tt r1 r2 d3) [(.double 0), (.int 0), (.ref (aA 4))])) rfl rfl (hb hby own_d10_248)
  obtain ⟨cqk24, qk24, qk24'⟩ := (own_R_exa Bn23).cell
  obtain ⟨_, _, ⟨Tk24, Lk24, kk24, nk24⟩, -, Xk24, ⟨Lck24, hQk24, lk24, yk24, zk24⟩, stk24⟩ := Xn23.privateBack hx (y := (⟨"com/example/placewright/placewright/solver/RevisedSimplex", "list", "(I)V"⟩ : MethodName)) hown (mvT hZ (own_W hw 159 rfl)) (mvT hZ (own_W hw 160 rfl)) (own_selP hZ (own_W hw 6 rfl) (own_W hw 161 rfl) (own_W hw 160 rfl) (by decide)) (Cond.privateMethod_at (mvP hZ (own_W hw 161 rfl) (args := #[]))) (mvT hZ (own_W hw 162 rfl)) (by decide) (backOf (W := 0) (own_rm12a l Z a0 hw [] tt aA aK _ _ (⟨y2, k_y2, .int, 2, none⟩ :: ⟨y3, k_y3, .double, 2, none⟩ :: ⟨bn10, k_r2, .double, 1, none⟩ :: ⟨bn6, k_r1, .int, 1, none⟩ :: ⟨r1, k_r1, .int, 1, some f_r1⟩ :: ⟨r2, k_r2, .double, 1, some f_r2⟩ :: aJ) hn23 n0 (own_R_sz Bn23) Bn23 at_10_0 rfl rfl c252_c11_hc19) hZ (own_W hw 162 rfl) (own_W hw 7 rfl) (by decide) (by decide)) (g := (mkF m 252 (own_L34 tt r1 r2 d3) [(.int 0), (.ref tt)])) rfl (by rw [hml]; rfl) (Steps.refl _) (a := tt) (by rw [en23]; exact qk24) qk24' (argsL := [(.int 0)]) (rest := []) (lenOf own_pd1 rfl) rfl (by show 2 * 0 + _ ≤ _; exact Nat.le_of_eq rfl) (hb hby own_d10_252) (fun _ _ => ⟨rfl, en23, (by decide : 2 + 0 ≤ _), (by decide : 2 + 0 ≤ _)⟩)
  dsimp only [Pt.U, Pt.locs, Pt.cells, Pt.slots] at Xk24 lk24 yk24 zk24 stk24 hQk24
  replace lk24 := lk24.symm; replace yk24 := yk24.symm; replace zk24 := zk24.symm; subst lk24 yk24 zk24
  obtain ⟨rfl, Nk24q, Bk24⟩ := hQk24
  have Nk24 := Fr.app Nn23 Nk24q
  obtain ⟨fs, hr, hrun, hended, hW, hsame⟩ := Xk24.leave (v := some (.int 0)) (fun h => by rw [Bd.returns] at h; cases h)
  refine ⟨_, _, pre0 _ (?_), hrun, hended, _, _, rfl, ?_, ⟨_, rfl⟩, hW, hsame.mono (by decide) (by decide)⟩
  · show Steps p.tables e below (s₁.setTop (mkF m 0 (own_L30 tt r1 r2 d3) [])) _
    refine XS.aloadN X0.here hx rfl (hb hby own_d10_0) rfl rfl ?_
    refine stn1 _ ?_
    refine XS.aloadN Xn1.here hx rfl (hb hby own_d10_4) rfl rfl ?_
    refine stn2 _ ?_
    show Steps p.tables e below (Tn2.setTop (mkF m 8 (own_L30 tt r1 r2 d3) [(.ref (aA 2)), (.int 0)])) _
    refine own_len Xn2 hx hZ en2 (own_pk B0 2 (by decide)) (g := (mkF m 8 (own_L30 tt r1 r2 d3) [(.ref (aA 2)), (.int 0)])) rfl rfl (hb hby own_d10_8) _ ?_
    refine XS.icmpYes Xn2.here hx rfl (pc0 := 9) (pc' := 130) rfl (hb hby own_d10_9) rfl (XT.ii_ne_t (by decide : ¬ ((0 : Int32) = (16 : Int32)))) (by decide) (by decide) ?_
    refine XS.aloadN Xn2.here hx rfl (hb hby own_d10_130) rfl rfl ?_
    refine XS.dup Xn2.here hx rfl (hb hby own_d10_131) rfl rfl ?_
    refine stn3 _ ?_
    show Steps p.tables e below (Tn3.setTop (mkF m 135 (own_L30 tt r1 r2 d3) [(.int 0), (.ref tt)])) _
    refine XT.dupX1 Xn3.here hx rfl (hb hby own_d10_135) rfl rfl rfl ?_
    refine XS.iconst Xn3.here hx rfl (hb hby own_d10_136) ?_
    refine XS.iadd Xn3.here hx rfl (hb hby own_d10_137) rfl ?_
    show Steps p.tables e below (Tn3.setTop (mkF m 138 (own_L30 tt r1 r2 d3) [(.int 1), (.ref tt), (.int 0)])) _
    refine stn4 _ ?_
    refine XS.istore Xn4.here hx rfl (hb hby own_d10_141) rfl (l' := (own_L31 tt r1 r2 d3)) rfl ?_
    refine XS.aloadN Xn4.here hx rfl (hb hby own_d10_143) rfl rfl ?_
    refine stn5 _ ?_
    show Steps p.tables e below (Tn5.setTop (mkF m 147 (own_L31 tt r1 r2 d3) [(.ref (aA 0))])) _
    refine XS.iload Xn5.here hx rfl (hb hby own_d10_147) rfl ?_
    refine XS.aloadN Xn5.here hx rfl (hb hby own_d10_149) rfl rfl ?_
    refine stn6 _ ?_
    show Steps p.tables e below (Tn6.setTop (mkF m 153 (own_L31 tt r1 r2 d3) [(.ref bn6), (.int 0), (.ref (aA 0))])) _
    refine stn7 _ ?_
    refine stn8 _ ?_
    refine XS.aloadN Xn8.here hx rfl (hb hby own_d10_157) rfl rfl ?_
    refine stn9 _ ?_
    show Steps p.tables e below (Tn9.setTop (mkF m 161 (own_L31 tt r1 r2 d3) [(.ref (aA 1))])) _
    refine XS.iload Xn9.here hx rfl (hb hby own_d10_161) rfl ?_
    refine XS.aloadN Xn9.here hx rfl (hb hby own_d10_163) rfl rfl ?_
    refine stn10 _ ?_
    show Steps p.tables e below (Tn10.setTop (mkF m 167 (own_L31 tt r1 r2 d3) [(.ref bn10), (.int 0), (.ref (aA 1))])) _
    refine stn11 _ ?_
    refine stn12 _ ?_
    refine XS.iconst Xn12.here hx rfl (hb hby own_d10_171) ?_
    refine XS.istore Xn12.here hx rfl (hb hby own_d10_172) rfl (l' := (own_L32 tt r1 r2 d3)) rfl ?_
    refine XS.iload Xn12.here hx rfl (hb hby own_d10_174) rfl ?_
    refine XS.aloadN Xn12.here hx rfl (hb hby own_d10_176) rfl rfl ?_
    refine own_len Xn12 hx hZ en12 (own_en (m := 2) Bn12 rfl) (g := (mkF m 177 (own_L32 tt r1 r2 d3) [(.ref r1), (.int 0)])) rfl rfl (hb hby own_d10_177) _ ?_
    show Steps p.tables e below (Tn12.setTop (mkF m 178 (own_L32 tt r1 r2 d3) [(.int 1), (.int 0)])) _
    refine XS.icmpNo Xn12.here hx rfl (hb hby own_d10_178) rfl (XT.ii_ge_f (by decide : (0 : Int32) < (1 : Int32))) ?_
    refine XS.aloadN Xn12.here hx rfl (hb hby own_d10_181) rfl rfl ?_
    refine XS.aloadN Xn12.here hx rfl (hb hby own_d10_182) rfl rfl ?_
    refine XS.iload Xn12.here hx rfl (hb hby own_d10_183) rfl ?_
    refine own_ldI Xn12 hx hZ en12 (own_en (m := 2) Bn12 rfl) 0 (by decide) (v := (.int 0)) et_r1_0 (g := (mkF m 185 (own_L32 tt r1 r2 d3) [(.int 0), (.ref r1), (.ref tt)])) rfl rfl (hb hby own_d10_185) _ ?_
    show Steps p.tables e below (Tn12.setTop (mkF m 186 (own_L32 tt r1 r2 d3) [(.int 0), (.ref tt)])) _
    refine XS.iload Xn12.here hx rfl (hb hby own_d10_186) rfl ?_
    refine XS.aloadN Xn12.here hx rfl (hb hby own_d10_188) rfl rfl ?_
    refine XS.iload Xn12.here hx rfl (hb hby own_d10_189) rfl ?_
    refine own_ldD Xn12 hx hZ en12 (own_en (m := 3) Bn12 rfl) 0 (by decide) (v := (.double x_r2_0)) et_r2_0 (g := (mkF m 191 (own_L32 tt r1 r2 d3) [(.int 0), (.ref r2), (.int 0), (.int 0), (.ref tt)])) rfl rfl (hb hby own_d10_191) _ ?_
    show Steps p.tables e below (Tn12.setTop (mkF m 192 (own_L32 tt r1 r2 d3) [(.double x_r2_0), (.int 0), (.int 0), (.ref tt)])) _
    refine stk13.trans ?_
    refine XS.iinc Xk13.here hx rfl (hb hby own_d10_195) rfl (l' := (own_L34 tt r1 r2 d3)) rfl ?_
    refine XS.goto Xk13.here hx rfl (pc0 := 198) (pc' := 174) rfl (hb hby own_d10_198) (by decide) (by decide) ?_
    refine XS.iload Xk13.here hx rfl (hb hby own_d10_174) rfl ?_
    refine XS.aloadN Xk13.here hx rfl (hb hby own_d10_176) rfl rfl ?_
    refine own_len Xk13 hx hZ rfl (own_en (m := 4) Bk13 rfl) (g := (mkF m 177 (own_L34 tt r1 r2 d3) [(.ref r1), (.int 1)])) rfl rfl (hb hby own_d10_177) _ ?_
    show Steps p.tables e below (Tk13.setTop (mkF m 178 (own_L34 tt r1 r2 d3) [(.int 1), (.int 1)])) _
    refine XS.icmpYes Xk13.here hx rfl (pc0 := 178) (pc' := 201) rfl (hb hby own_d10_178) rfl (XT.ii_ge_t (by decide : ¬ ((1 : Int32) < (1 : Int32)))) (by decide) (by decide) ?_
    refine XS.aloadN Xk13.here hx rfl (hb hby own_d10_201) rfl rfl ?_
    refine stn15 _ ?_
    show Steps p.tables e below (Tn15.setTop (mkF m 205 (own_L34 tt r1 r2 d3) [(.ref (aA 2))])) _
    refine XS.iload Xn15.here hx rfl (hb hby own_d10_205) rfl ?_
    refine XS.dloadN Xn15.here hx rfl (hb hby own_d10_207) rfl ?_
    refine stn16 _ ?_
    show Steps p.tables e below (Tn16.setTop (mkF m 209 (own_L34 tt r1 r2 d3) [])) _
    refine XS.aloadN Xn16.here hx rfl (hb hby own_d10_209) rfl rfl ?_
    refine stn17 _ ?_
    refine XS.iload Xn17.here hx rfl (hb hby own_d10_213) rfl ?_
    refine XS.iconst Xn17.here hx rfl (hb hby own_d10_215) ?_
    refine stn18 _ ?_
    show Steps p.tables e below (Tn18.setTop (mkF m 217 (own_L34 tt r1 r2 d3) [])) _
    refine XS.aloadN Xn18.here hx rfl (hb hby own_d10_217) rfl rfl ?_
    refine stn19 _ ?_
    refine XS.iload Xn19.here hx rfl (hb hby own_d10_221) rfl ?_
    refine XS.dconst1 Xn19.here hx rfl (hb hby own_d10_223) (v := (4607182418800017408 : UInt64)) (by decide +kernel) ?_
    show Steps p.tables e below (Tn19.setTop (mkF m 224 (own_L34 tt r1 r2 d3) [(.double 4607182418800017408), (.int 0), (.ref (aA 5))])) _
    refine stn20 _ ?_
    refine XS.aloadN Xn20.here hx rfl (hb hby own_d10_225) rfl rfl ?_
    refine stn21 _ ?_
    show Steps p.tables e below (Tn21.setTop (mkF m 229 (own_L34 tt r1 r2 d3) [(.ref (aA 4))])) _
    refine XS.iload Xn21.here hx rfl (hb hby own_d10_229) rfl ?_
    refine XS.aloadN Xn21.here hx rfl (hb hby own_d10_231) rfl rfl ?_
    refine stn22 _ ?_
    show Steps p.tables e below (Tn22.setTop (mkF m 235 (own_L34 tt r1 r2 d3) [(.int 1), (.int 0), (.ref (aA 4))])) _
    refine XS.ifNo Xn22.here hx rfl (hb hby own_d10_235) rfl (XT.i0_eq_f (by decide : ¬ ((1 : Int32) = (0 : Int32)))) ?_
    refine XS.dconst0 Xn22.here hx rfl (hb hby own_d10_238) (v := (0 : UInt64)) (by decide +kernel) ?_
    refine XS.goto Xn22.here hx rfl (pc0 := 239) (pc' := 248) rfl (hb hby own_d10_239) (by decide) (by decide) ?_
    refine stn23 _ ?_
    show Steps p.tables e below (Tn23.setTop (mkF m 249 (own_L34 tt r1 r2 d3) [])) _
    refine XS.aloadN Xn23.here hx rfl (hb hby own_d10_249) rfl rfl ?_
    refine XS.iload Xn23.here hx rfl (hb hby own_d10_250) rfl ?_
    refine stk24.trans ?_
    show Steps p.tables e below (Tk24.setTop (mkF m 255 (own_L34 tt r1 r2 d3) [])) _
    refine XS.iload Xk24.here hx rfl (hb hby own_d10_255) rfl ?_
    show Steps p.tables e below (Tk24.setTop (mkF m 257 (own_L34 tt r1 r2 d3) [(.int 0)])) _
    exact retI Xk24 hx Bd.returns (hb hby own_d10_257) hr
  · show own_Q10a Z tt aA aK aF aV aJ f_r1 r1 k_r1 f_r2 r2 k_r2 d3 y2 k_y2 y3 k_y3 x_r2_0 h0 n0 _ Tk24.heap _
    exact ⟨bn10, bn6, rfl, Nk24, (own_R_pick Bk24 6 [2, 3, 4, 5, 0, 1] trivial (by decide) (by decide))⟩
theorem own_pd6 : parseMethodDescriptor "([I[DD)I" = some ⟨[(.array .int), (.array .double), .double], some .int⟩ := by decide +kernel
def own_L35 (x0 : Addr) (x1 : UInt64) (x2 : Addr) (x3 : Addr) (x4 : UInt64) (x5 : UInt64) (x6 : UInt64) : Array Slot := #[.val (.ref x0), .val (.double x1), .second, .val (.ref x2), .val (.ref x3), .val (.double x4), .second, .val (.double x5), .second, .val (.int 0), .val (.double 0), .second, .val (.double x6), .second, .val (.int 0)]
theorem own_pd7 : parseMethodDescriptor "(DD)D" = some ⟨[.double, .double], some .double⟩ := by decide +kernel
theorem own_d8_0 : decode prog_29_method_3_code 0 = .ok (.aload_n 0, 1) := by decide +kernel
theorem own_d8_1 : decode prog_29_method_3_code 1 = .ok (.getfield 116, 3) := by decide +kernel
theorem own_d8_4 : decode prog_29_method_3_code 4 = .ok (.istore 9, 2) := by decide +kernel
theorem own_d8_6 : decode prog_29_method_3_code 6 = .ok (.iload 9, 2) := by decide +kernel
theorem own_d8_8 : decode prog_29_method_3_code 8 = .ok (.aload_n 0, 1) := by decide +kernel
theorem own_d8_9 : decode prog_29_method_3_code 9 = .ok (.getfield 49, 3) := by decide +kernel
theorem own_d8_12 : decode prog_29_method_3_code 12 = .ok (.if_icmp .ne 7, 3) := by decide +kernel
theorem own_d8_19 : decode prog_29_method_3_code 19 = .ok (.aload_n 0, 1) := by decide +kernel
theorem own_d8_20 : decode prog_29_method_3_code 20 = .ok (.getfield 33, 3) := by decide +kernel
theorem own_d8_23 : decode prog_29_method_3_code 23 = .ok (.iload 9, 2) := by decide +kernel
theorem own_d8_25 : decode prog_29_method_3_code 25 = .ok (.aload_n 3, 1) := by decide +kernel
theorem own_d8_26 : decode prog_29_method_3_code 26 = .ok (.arraylength, 1) := by decide +kernel
theorem own_d8_27 : decode prog_29_method_3_code 27 = .ok (.iconst 1, 1) := by decide +kernel
theorem own_d8_28 : decode prog_29_method_3_code 28 = .ok (.iadd, 1) := by decide +kernel
theorem own_d8_29 : decode prog_29_method_3_code 29 = .ok (.iconst 2, 1) := by decide +kernel
theorem own_d8_30 : decode prog_29_method_3_code 30 = .ok (.invokestatic 122, 3) := by decide +kernel
theorem own_d8_33 : decode prog_29_method_3_code 33 = .ok (.newarray .int, 2) := by decide +kernel
theorem own_d8_35 : decode prog_29_method_3_code 35 = .ok (.aastore, 1) := by decide +kernel
theorem own_d8_36 : decode prog_29_method_3_code 36 = .ok (.aload_n 0, 1) := by decide +kernel
theorem own_d8_37 : decode prog_29_method_3_code 37 = .ok (.getfield 36, 3) := by decide +kernel
theorem own_d8_40 : decode prog_29_method_3_code 40 = .ok (.iload 9, 2) := by decide +kernel
theorem own_d8_42 : decode prog_29_method_3_code 42 = .ok (.aload_n 0, 1) := by decide +kernel
theorem own_d8_43 : decode prog_29_method_3_code 43 = .ok (.getfield 33, 3) := by decide +kernel
theorem own_d8_46 : decode prog_29_method_3_code 46 = .ok (.iload 9, 2) := by decide +kernel
theorem own_d8_48 : decode prog_29_method_3_code 48 = .ok (.aaload, 1) := by decide +kernel
theorem own_d8_49 : decode prog_29_method_3_code 49 = .ok (.arraylength, 1) := by decide +kernel
theorem own_d8_50 : decode prog_29_method_3_code 50 = .ok (.newarray .double, 2) := by decide +kernel
theorem own_d8_52 : decode prog_29_method_3_code 52 = .ok (.aastore, 1) := by decide +kernel
theorem own_d8_53 : decode prog_29_method_3_code 53 = .ok (.aload_n 0, 1) := by decide +kernel
theorem own_d8_54 : decode prog_29_method_3_code 54 = .ok (.getfield 39, 3) := by decide +kernel
theorem own_d8_57 : decode prog_29_method_3_code 57 = .ok (.iload 9, 2) := by decide +kernel
theorem own_d8_59 : decode prog_29_method_3_code 59 = .ok (.iconst 0, 1) := by decide +kernel
theorem own_d8_60 : decode prog_29_method_3_code 60 = .ok (.iastore, 1) := by decide +kernel
theorem own_d8_61 : decode prog_29_method_3_code 61 = .ok (.iconst 0, 1) := by decide +kernel
theorem own_d8_62 : decode prog_29_method_3_code 62 = .ok (.istore 10, 2) := by decide +kernel
theorem own_d8_64 : decode prog_29_method_3_code 64 = .ok (.iload 10, 2) := by decide +kernel
theorem own_d8_66 : decode prog_29_method_3_code 66 = .ok (.aload_n 3, 1) := by decide +kernel
theorem own_d8_67 : decode prog_29_method_3_code 67 = .ok (.arraylength, 1) := by decide +kernel
theorem own_d8_68 : decode prog_29_method_3_code 68 = .ok (.if_icmp .ge 125, 3) := by decide +kernel
theorem own_d8_193 : decode prog_29_method_3_code 193 = .ok (.dconst 0, 1) := by decide +kernel
theorem own_d8_194 : decode prog_29_method_3_code 194 = .ok (.dstore 10, 2) := by decide +kernel
theorem own_d8_196 : decode prog_29_method_3_code 196 = .ok (.iconst 0, 1) := by decide +kernel
theorem own_d8_197 : decode prog_29_method_3_code 197 = .ok (.istore 12, 2) := by decide +kernel
theorem own_d8_199 : decode prog_29_method_3_code 199 = .ok (.iload 12, 2) := by decide +kernel
theorem own_d8_201 : decode prog_29_method_3_code 201 = .ok (.aload_n 3, 1) := by decide +kernel
theorem own_d8_202 : decode prog_29_method_3_code 202 = .ok (.arraylength, 1) := by decide +kernel
theorem own_d8_203 : decode prog_29_method_3_code 203 = .ok (.if_icmp .ge 43, 3) := by decide +kernel
theorem own_d8_246 : decode prog_29_method_3_code 246 = .ok (.dload_n 1, 1) := by decide +kernel
theorem own_d8_247 : decode prog_29_method_3_code 247 = .ok (.dload 10, 2) := by decide +kernel
theorem own_d8_249 : decode prog_29_method_3_code 249 = .ok (.dsub, 1) := by decide +kernel
theorem own_d8_250 : decode prog_29_method_3_code 250 = .ok (.dload 5, 2) := by decide +kernel
theorem own_d8_252 : decode prog_29_method_3_code 252 = .ok (.ddiv, 1) := by decide +kernel
theorem own_d8_253 : decode prog_29_method_3_code 253 = .ok (.dstore 12, 2) := by decide +kernel
theorem own_d8_255 : decode prog_29_method_3_code 255 = .ok (.dload 12, 2) := by decide +kernel
theorem own_d8_257 : decode prog_29_method_3_code 257 = .ok (.ldc2_w 128, 3) := by decide +kernel
theorem own_d8_260 : decode prog_29_method_3_code 260 = .ok (.dcmp .g, 1) := by decide +kernel
theorem own_d8_261 : decode prog_29_method_3_code 261 = .ok (.ifCond .ge 18, 3) := by decide +kernel
theorem own_d8_279 : decode prog_29_method_3_code 279 = .ok (.aload_n 0, 1) := by decide +kernel
theorem own_d8_280 : decode prog_29_method_3_code 280 = .ok (.dup, 1) := by decide +kernel
theorem own_d8_281 : decode prog_29_method_3_code 281 = .ok (.getfield 116, 3) := by decide +kernel
theorem own_d8_284 : decode prog_29_method_3_code 284 = .ok (.iconst 1, 1) := by decide +kernel
theorem own_d8_285 : decode prog_29_method_3_code 285 = .ok (.iadd, 1) := by decide +kernel
theorem own_d8_286 : decode prog_29_method_3_code 286 = .ok (.putfield 116, 3) := by decide +kernel
theorem own_d8_289 : decode prog_29_method_3_code 289 = .ok (.aload_n 0, 1) := by decide +kernel
theorem own_d8_290 : decode prog_29_method_3_code 290 = .ok (.iconst 1, 1) := by decide +kernel
theorem own_d8_291 : decode prog_29_method_3_code 291 = .ok (.putfield 105, 3) := by decide +kernel
theorem own_d8_294 : decode prog_29_method_3_code 294 = .ok (.aload_n 0, 1) := by decide +kernel
theorem own_d8_295 : decode prog_29_method_3_code 295 = .ok (.iconst 0, 1) := by decide +kernel
theorem own_d8_296 : decode prog_29_method_3_code 296 = .ok (.putfield 72, 3) := by decide +kernel
theorem own_d8_299 : decode prog_29_method_3_code 299 = .ok (.aload_n 0, 1) := by decide +kernel
theorem own_d8_300 : decode prog_29_method_3_code 300 = .ok (.iconst 1, 1) := by decide +kernel
theorem own_d8_301 : decode prog_29_method_3_code 301 = .ok (.newarray .int, 2) := by decide +kernel
theorem own_d8_303 : decode prog_29_method_3_code 303 = .ok (.dup, 1) := by decide +kernel
theorem own_d8_304 : decode prog_29_method_3_code 304 = .ok (.iconst 0, 1) := by decide +kernel
theorem own_d8_305 : decode prog_29_method_3_code 305 = .ok (.iload 9, 2) := by decide +kernel
theorem own_d8_307 : decode prog_29_method_3_code 307 = .ok (.iastore, 1) := by decide +kernel
theorem own_d8_308 : decode prog_29_method_3_code 308 = .ok (.iconst 1, 1) := by decide +kernel
theorem own_d8_309 : decode prog_29_method_3_code 309 = .ok (.newarray .double, 2) := by decide +kernel
theorem own_d8_311 : decode prog_29_method_3_code 311 = .ok (.dup, 1) := by decide +kernel
theorem own_d8_312 : decode prog_29_method_3_code 312 = .ok (.iconst 0, 1) := by decide +kernel
theorem own_d8_313 : decode prog_29_method_3_code 313 = .ok (.dload 5, 2) := by decide +kernel
theorem own_d8_315 : decode prog_29_method_3_code 315 = .ok (.dastore, 1) := by decide +kernel
theorem own_d8_316 : decode prog_29_method_3_code 316 = .ok (.dload 7, 2) := by decide +kernel
theorem own_d8_318 : decode prog_29_method_3_code 318 = .ok (.invokevirtual 139, 3) := by decide +kernel
theorem own_d8_321 : decode prog_29_method_3_code 321 = .ok (.istore 14, 2) := by decide +kernel
theorem own_d8_323 : decode prog_29_method_3_code 323 = .ok (.aload_n 0, 1) := by decide +kernel
theorem own_d8_324 : decode prog_29_method_3_code 324 = .ok (.getfield 53, 3) := by decide +kernel
theorem own_d8_327 : decode prog_29_method_3_code 327 = .ok (.iload 9, 2) := by decide +kernel
theorem own_d8_329 : decode prog_29_method_3_code 329 = .ok (.dload_n 1, 1) := by decide +kernel
theorem own_d8_330 : decode prog_29_method_3_code 330 = .ok (.dastore, 1) := by decide +kernel
theorem own_d8_331 : decode prog_29_method_3_code 331 = .ok (.aload_n 0, 1) := by decide +kernel
theorem own_d8_332 : decode prog_29_method_3_code 332 = .ok (.getfield 56, 3) := by decide +kernel
theorem own_d8_335 : decode prog_29_method_3_code 335 = .ok (.iload 9, 2) := by decide +kernel
theorem own_d8_337 : decode prog_29_method_3_code 337 = .ok (.iload 14, 2) := by decide +kernel
theorem own_d8_339 : decode prog_29_method_3_code 339 = .ok (.iastore, 1) := by decide +kernel
theorem own_d8_340 : decode prog_29_method_3_code 340 = .ok (.aload_n 0, 1) := by decide +kernel
theorem own_d8_341 : decode prog_29_method_3_code 341 = .ok (.getfield 59, 3) := by decide +kernel
theorem own_d8_344 : decode prog_29_method_3_code 344 = .ok (.iload 9, 2) := by decide +kernel
theorem own_d8_346 : decode prog_29_method_3_code 346 = .ok (.dconst 0, 1) := by decide +kernel
theorem own_d8_347 : decode prog_29_method_3_code 347 = .ok (.dload 12, 2) := by decide +kernel
theorem own_d8_349 : decode prog_29_method_3_code 349 = .ok (.invokestatic 143, 3) := by decide +kernel
theorem own_d8_352 : decode prog_29_method_3_code 352 = .ok (.dastore, 1) := by decide +kernel
theorem own_d8_353 : decode prog_29_method_3_code 353 = .ok (.aload_n 0, 1) := by decide +kernel
theorem own_d8_354 : decode prog_29_method_3_code 354 = .ok (.getfield 24, 3) := by decide +kernel
theorem own_d8_357 : decode prog_29_method_3_code 357 = .ok (.iload 14, 2) := by decide +kernel
theorem own_d8_359 : decode prog_29_method_3_code 359 = .ok (.iload 9, 2) := by decide +kernel
theorem own_d8_361 : decode prog_29_method_3_code 361 = .ok (.iastore, 1) := by decide +kernel
theorem own_d8_362 : decode prog_29_method_3_code 362 = .ok (.iload 14, 2) := by decide +kernel
theorem own_d8_364 : decode prog_29_method_3_code 364 = .ok (.ireturn, 1) := by decide +kernel
def own_v8a_0 (d1 : UInt64) (d4 : UInt64) : UInt64 := (FP.ddiv (FP.dsub d1 (0 : UInt64)) d4)
def own_v8a_1 (d1 : UInt64) (d4 : UInt64) : UInt64 := (Native.java_lang_Math.nans.pick64 true (0 : UInt64) (own_v8a_0 d1 d4))
theorem own_ef8a (m : MethodId) (tt : Addr) (d1 : UInt64) (r2 : Addr) (r3 : Addr) (d4 : UInt64) (d5 : UInt64) : entryFrame m #[(.ref tt), (.double d1), (.ref r2), (.ref r3), (.double d4), (.double d5)] 15 = mkF m 0 #[.val (.ref tt), .val (.double d1), .second, .val (.ref r2), .val (.ref r3), .val (.double d4), .second, .val (.double d5), .second, .unset, .unset, .unset, .unset, .unset, .unset] [] := by first | (simp [entryFrame, mkF, argsToLocals, Value.category]; done) | rfl
def own_Q8a (Z : State) (tt : Addr) (aA : Nat → Addr) (aK : Nat → ClassId) (aF : Nat → Nat → Value) (aV : Nat → Value) (aJ : List own_e) (d1 : UInt64) (f_r2 : Nat → Value) (r2 : Addr) (k_r2 : ClassId) (f_r3 : Nat → Value) (r3 : Addr) (k_r3 : ClassId) (d4 : UInt64) (d5 : UInt64) (h0 : Heap) (n0 : Nat) (v : Option Value) (h : Heap) (L : List Loc) : Prop := ∃ (bk21_0 : Addr) (kn19 : ClassId) (bk21_1 : Addr) (kn17 : ClassId) (bn5 : Addr) (kn5 : ClassId) (bn9 : Addr) (kn9 : ClassId), v = some (.int 0) ∧ Fr n0 L ∧ own_R 15 Z n0 h tt aA aK (own_up2 (own_up2 (own_up2 (own_up2 (own_up2 (own_up2 (own_up2 (own_up2 (own_up2 (own_up2 (own_up2 (own_up2 (own_up2 (own_up2 aF 6 0 (.ref bn5)) 7 0 (.ref bn9)) 8 0 (.int 0)) 0 0 (.ref bk21_1)) 1 0 (.ref bk21_0)) 8 0 (.int 1)) 2 0 (.double d5)) 3 0 (.int (-1 : Int32))) 5 0 (.double 4607182418800017408)) 4 0 (.double 0)) 11 0 (.double d1)) 12 0 (.int 0)) 13 0 (.double (own_v8a_1 d1 d4))) 3 0 (.int 0)) (own_up (own_up (own_up (own_up aV 17 (.int 1)) 19 (.int 1)) 20 (.int 0)) 15 (.int 1)) (⟨bk21_0, kn19, .double, 1, none⟩ :: ⟨bk21_1, kn17, .int, 1, none⟩ :: ⟨bn5, kn5, .int, 2, none⟩ :: ⟨bn9, kn9, .double, 2, none⟩ :: ⟨r2, k_r2, .int, 0, some f_r2⟩ :: ⟨r3, k_r3, .double, 0, some f_r3⟩ :: aJ)
set_option maxRecDepth 65536 in
set_option maxHeartbeats 40000000 in
theorem own_rm8a (l : Launch) (Z : State) (a0 : Array Value) (hw : ∀ d ∈ tables_1, d.before a0 Z = true) (ws : List Jvm.Cond) (tt : Addr) (aA : Nat → Addr) (aK : Nat → ClassId) (aF : Nat → Nat → Value) (aV : Nat → Value) (aJ : List own_e) (d1 : UInt64) (f_r2 : Nat → Value) (r2 : Addr) (k_r2 : ClassId) (f_r3 : Nat → Value) (r3 : Addr) (k_r3 : ClassId) (d4 : UInt64) (d5 : UInt64) (h0 : Heap) (n0 : Nat) (Z0 : n0 ≤ h0.size) (B0 : own_R 15 Z n0 h0 tt aA aK aF aV (⟨r2, k_r2, .int, 0, some f_r2⟩ :: ⟨r3, k_r3, .double, 0, some f_r3⟩ :: aJ)) (vt_17 : aV 17 = (.int 0)) (vt_18 : aV 18 = (.int 16)) (nn249 : NoNaN64 (FP.dsub d1 (0 : UInt64))) (nn252 : NoNaN64 (FP.ddiv (FP.dsub d1 (0 : UInt64)) d4)) (hc261 : ¬ ((cmpValue (FP.dcmp (own_v8a_0 d1 d4) (13695778570484766357 : UInt64)) .g) < (0 : Int32))) (vt_15 : aV 15 = (.int 0)) (at_10_0 : aF 10 0 = (.int 0)) (c318_c252_c11_hc19 : ¬ ((cmpValue (FP.dcmp (0 : UInt64) (13695778570484766357 : UInt64)) .g) < (0 : Int32))) (nx349 : NoNaN64 (0 : UInt64)) (ny349 : NoNaN64 (own_v8a_0 d1 d4)) :
    MetFree l (⟨"com/example/placewright/placewright/solver/RevisedSimplex", "addRow", "(D[I[DDD)I"⟩ : MethodName) (head1 (Jvm.Cond.code (⟨"com/example/placewright/placewright/solver/RevisedSimplex", "addRow", "(D[I[DDD)I"⟩ : MethodName) prog_29_method_3_code 15 (some .int) :: ws) ({ frames := 3, cells := 6, slots := 8, locals := 44 } : Room)) (fun a U => a = #[(.ref tt), (.double d1), (.ref r2), (.ref r3), (.double d4), (.double d5)] ∧ Z.Warmed39 U.vm ∧ U.heap = h0) (fun _ _ _ _ _ => True) (fun _ U o U' => ∃ v L, o = .returned v ∧ own_Q8a Z tt aA aK aF aV aJ d1 f_r2 r2 k_r2 f_r3 r3 k_r3 d4 d5 h0 n0 v U'.heap L ∧ FrameEnd U o U' L ({ frames := 3, cells := 6, slots := 8, locals := 44 } : Room).cells ({ frames := 3, cells := 6, slots := 8, locals := 44 } : Room).slots) := by
  refine MetFree.of_bodySF (plainFor_of_name own_pn4) hisR ?_
  intro p e s m args below meth c s₁ Bd hml0 hP hK
  obtain ⟨rfl, hZ, hh⟩ := hP
  have hx := Bd.exec
  have hby := Bd.bytes
  have hml : c.maxLocals = 15 := hml0
  have hown : s.vm.findClass "com/example/placewright/placewright/solver/RevisedSimplex" = some m.cls := findClass_of_methodNamed Bd.named
  have hnm := (name_of_methodNamed Bd.named Bd.method).1
  have X0 : Stand p l e ({ frames := 3, cells := 6, slots := 8, locals := 44 } : Room) s m #[(.ref tt), (.double d1), (.ref r2), (.ref r3), (.double d4), (.double d5)] below meth c s₁ [] 0 0 := Stand.of_body Bd
  have e0 : s₁.heap = h0 := by rw [← hh, Bd.state]; rfl
  have N0 := Fr.nil n0
  have Zr : h0.size ≤ h0.size := Nat.le_refl _
  have pre0 : ∀ t, Steps p.tables e below (s₁.setTop (mkF m 0 #[.val (.ref tt), .val (.double d1), .second, .val (.ref r2), .val (.ref r3), .val (.double d4), .second, .val (.double d5), .second, .unset, .unset, .unset, .unset, .unset, .unset] [])) t → Steps p.tables e below (s₁.setTop (entryFrame m #[(.ref tt), (.double d1), (.ref r2), (.ref r3), (.double d4), (.double d5)] 15)) t := fun t k => castTop (own_ef8a m tt d1 r2 r3 d4 d5) k
  obtain ⟨Tn1, Xn1, en1, stn1⟩ := getF X0 hx hZ hown (host := "") (Or.inl (own_W hw 121 rfl)) Via.refl e0 (own_gs (v := (.int 0)) B0 17 (by decide) vt_17) (g := (mkF m 1 (own_L24 tt d1 r2 r3 d4 d5) [(.ref tt)])) rfl rfl (hb hby own_d8_1)
  obtain ⟨Tn2, Xn2, en2, stn2⟩ := getF Xn1 hx hZ hown (host := "") (Or.inl (own_W hw 43 rfl)) Via.refl en1 (own_gs (v := (.int 16)) B0 18 (by decide) vt_18) (g := (mkF m 9 (own_L25 tt d1 r2 r3 d4 d5) [(.ref tt), (.int 0)])) rfl rfl (hb hby own_d8_9)
  obtain ⟨Tn3, Xn3, en3, stn3⟩ := getF Xn2 hx hZ hown (host := "") (Or.inl (own_W hw 32 rfl)) Via.refl en2 (own_ga B0 6 (by decide) (by decide)) (g := (mkF m 20 (own_L25 tt d1 r2 r3 d4 d5) [(.ref tt)])) rfl rfl (hb hby own_d8_20)
  obtain ⟨_, _, ⟨Tk4, Lk4, kk4, nk4⟩, -, Xk4, ⟨Lck4, hQk4, lk4, yk4, zk4⟩, stk4⟩ := Jvm.LawKit.callS Xn3 hx (y := (⟨"java/lang/Math", "max", "(II)I"⟩ : MethodName)) hown (mvT hZ (own_W hw 129 rfl)) (mvT hZ (own_W hw 130 rfl)) (mvT hZ (own_W hw 3 rfl)) (mvT hZ (own_W hw 131 rfl)) (by decide) (backOf (W := 2) (own_rm9_1_2 l Z a0 hw []  h0 n0 (own_R_sz B0)) hZ (own_W hw 131 rfl) (own_W hw 3 rfl) (by decide) (by decide)) (g := (mkF m 30 (own_L25 tt d1 r2 r3 d4 d5) [(.int 2), (.int 1), (.int 0), (.ref (aA 6))])) rfl (by rw [hml]; rfl) (argsL := [(.int 1), (.int 2)]) (rest := [(.int 0), (.ref (aA 6))]) (lenOf own_pd2 rfl) rfl (by show 2 * 0 + _ ≤ _; exact Nat.le_of_eq rfl) (hb hby own_d8_30) (fun _ _ => ⟨rfl, en3, (by decide : 0 + 0 ≤ _), (by decide : 0 + 0 ≤ _)⟩)
  dsimp only [Pt.U, Pt.locs, Pt.cells, Pt.slots] at Xk4 lk4 yk4 zk4 stk4 hQk4
  replace lk4 := lk4.symm; replace yk4 := yk4.symm; replace zk4 := zk4.symm; subst lk4 yk4 zk4
  obtain ⟨rfl, Nk4q, ek4⟩ := hQk4
  have Nk4 := Fr.app N0 Nk4q
  obtain ⟨Tn5, hn5, bn5, kn5, Xn5, en5, Bn5, stn5⟩ := own_na Xk4 hx hZ (own_W hw 25 rfl) ek4 B0 .int rfl (fun _ => trivial) (by decide) (g := (mkF m 33 (own_L25 tt d1 r2 r3 d4 d5) [(.int 2), (.int 0), (.ref (aA 6))])) rfl (hb hby own_d8_33) rfl (by decide) (cap := 2) (by decide) (by decide) (by decide) (by decide)
  have Cn5 := own_R_forget Bn5
  obtain ⟨Tn6, hn6, Ln6, Xn6, en6, Bn6, Nn6, stn6⟩ := own_stR Xn5 hx hZ en5 Cn5 Nk4 6 0 0 (by decide) rfl (Or.inl ⟨rfl, rfl⟩) rfl (by decide) (g := (mkF m 35 (own_L25 tt d1 r2 r3 d4 d5) [(.ref bn5), (.int 0), (.ref (aA 6))])) rfl rfl (hb hby own_d8_35)
  obtain ⟨Tn7, Xn7, en7, stn7⟩ := getF Xn6 hx hZ hown (host := "") (Or.inl (own_W hw 34 rfl)) Via.refl en6 (own_ga Bn6 7 (by decide) (by decide)) (g := (mkF m 37 (own_L25 tt d1 r2 r3 d4 d5) [(.ref tt)])) rfl rfl (hb hby own_d8_37)
  obtain ⟨Tn8, Xn8, en8, stn8⟩ := getF Xn7 hx hZ hown (host := "") (Or.inl (own_W hw 32 rfl)) Via.refl en7 (own_ga Bn6 6 (by decide) (by decide)) (g := (mkF m 43 (own_L25 tt d1 r2 r3 d4 d5) [(.ref tt), (.int 0), (.ref (aA 7))])) rfl rfl (hb hby own_d8_43)
  obtain ⟨Tn9, hn9, bn9, kn9, Xn9, en9, Bn9, stn9⟩ := own_na Xn8 hx hZ (own_W hw 22 rfl) en8 Bn6 .double rfl (fun _ => trivial) (by decide) (g := (mkF m 50 (own_L25 tt d1 r2 r3 d4 d5) [(.int 2), (.int 0), (.ref (aA 7))])) rfl (hb hby own_d8_50) rfl (by decide) (cap := 2) (by decide) (by decide) (by decide) (by decide)
  have Cn9 := own_R_forget Bn9
  obtain ⟨Tn10, hn10, Ln10, Xn10, en10, Bn10, Nn10, stn10⟩ := own_stR Xn9 hx hZ en9 Cn9 Nn6 7 0 0 (by decide) rfl (Or.inr ⟨rfl, rfl⟩) rfl (by decide) (g := (mkF m 52 (own_L25 tt d1 r2 r3 d4 d5) [(.ref bn9), (.int 0), (.ref (aA 7))])) rfl rfl (hb hby own_d8_52)
  obtain ⟨Tn11, Xn11, en11, stn11⟩ := getF Xn10 hx hZ hown (host := "") (Or.inl (own_W hw 36 rfl)) Via.refl en10 (own_ga Bn10 8 (by decide) (by decide)) (g := (mkF m 54 (own_L25 tt d1 r2 r3 d4 d5) [(.ref tt)])) rfl rfl (hb hby own_d8_54)
  obtain ⟨Tn12, hn12, Ln12, Xn12, en12, Bn12, Nn12, stn12⟩ := own_stI Xn11 hx hZ en11 Bn10 Nn10 8 0 (by decide) rfl (by decide) (g := (mkF m 60 (own_L25 tt d1 r2 r3 d4 d5) [(.int 0), (.int 0), (.ref (aA 8))])) rfl rfl (hb hby own_d8_60)
  obtain ⟨Tn13, Xn13, en13, stn13⟩ := getF Xn12 hx hZ hown (host := "") (Or.inl (own_W hw 121 rfl)) Via.refl en12 (own_gs (v := (.int 0)) Bn12 17 (by decide) vt_17) (g := (mkF m 281 (own_L29 tt d1 r2 r3 d4 d5 (own_v8a_0 d1 d4)) [(.ref tt), (.ref tt)])) rfl rfl (hb hby own_d8_281)
  obtain ⟨Tn14, hn14, Ln14, Xn14, en14, Bn14, Nn14, stn14⟩ := own_pu Xn13 hx hZ hown 17 (own_W hw 121 rfl) en13 Bn12 Nn12 (own_sS hw) (by decide) (by decide) (Or.inl (own_W hw 122 rfl)) (own_W hw 6 rfl) (v' := (.int 1)) rfl rfl (g := (mkF m 286 (own_L29 tt d1 r2 r3 d4 d5 (own_v8a_0 d1 d4)) [(.int 1), (.ref tt)])) rfl rfl (hb hby own_d8_286)
  obtain ⟨Tn15, hn15, Ln15, Xn15, en15, Bn15, Nn15, stn15⟩ := own_pu Xn14 hx hZ hown 19 (own_W hw 135 rfl) en14 Bn14 Nn14 (own_sS hw) (by decide) (by decide) (Or.inl (own_W hw 136 rfl)) (own_W hw 6 rfl) (v' := (.int 1)) rfl rfl (g := (mkF m 291 (own_L29 tt d1 r2 r3 d4 d5 (own_v8a_0 d1 d4)) [(.int 1), (.ref tt)])) rfl rfl (hb hby own_d8_291)
  obtain ⟨Tn16, hn16, Ln16, Xn16, en16, Bn16, Nn16, stn16⟩ := own_pu Xn15 hx hZ hown 20 (own_W hw 114 rfl) en15 Bn15 Nn15 (own_sS hw) (by decide) (by decide) (Or.inl (own_W hw 115 rfl)) (own_W hw 6 rfl) (v' := (.int 0)) rfl rfl (g := (mkF m 296 (own_L29 tt d1 r2 r3 d4 d5 (own_v8a_0 d1 d4)) [(.int 0), (.ref tt)])) rfl rfl (hb hby own_d8_296)
  obtain ⟨Tn17, hn17, bn17, kn17, Xn17, en17, Bn17, stn17⟩ := own_na Xn16 hx hZ (own_W hw 25 rfl) en16 Bn16 .int rfl (fun _ => trivial) (by decide) (g := (mkF m 301 (own_L29 tt d1 r2 r3 d4 d5 (own_v8a_0 d1 d4)) [(.int 1), (.ref tt)])) rfl (hb hby own_d8_301) rfl (by decide) (cap := 1) (by decide) (by decide) (by decide) (by decide)
  obtain ⟨Tn18, hn18, Ln18, Xn18, en18, Bn18, Nn18, stn18⟩ := own_shI Xn17 hx hZ en17 Bn17 Nn16 0 (by decide) (g := (mkF m 307 (own_L29 tt d1 r2 r3 d4 d5 (own_v8a_0 d1 d4)) [(.int 0), (.int 0), (.ref bn17), (.ref bn17), (.ref tt)])) rfl rfl (hb hby own_d8_307)
  obtain ⟨Tn19, hn19, bn19, kn19, Xn19, en19, Bn19, stn19⟩ := own_na Xn18 hx hZ (own_W hw 22 rfl) en18 Bn18 .double rfl (fun _ => trivial) (by decide) (g := (mkF m 309 (own_L29 tt d1 r2 r3 d4 d5 (own_v8a_0 d1 d4)) [(.int 1), (.ref bn17), (.ref tt)])) rfl (hb hby own_d8_309) rfl (by decide) (cap := 1) (by decide) (by decide) (by decide) (by decide)
  obtain ⟨Tn20, hn20, Ln20, Xn20, en20, Bn20, Nn20, stn20⟩ := own_shD Xn19 hx hZ en19 Bn19 Nn18 0 (by decide) (g := (mkF m 315 (own_L29 tt d1 r2 r3 d4 d5 (own_v8a_0 d1 d4)) [(.double d4), (.int 0), (.ref bn19), (.ref bn19), (.ref bn17), (.ref tt)])) rfl rfl (hb hby own_d8_315)
  have B22 : own_R 15 Z n0 hn20 tt aA aK _ _ (⟨bn17, kn17, .int, 1, some (own_up (own_all (.int 0)) 0 (.int 0))⟩ :: ⟨bn19, kn19, .double, 1, some (own_up (own_all (.double 0)) 0 (.double d4))⟩ :: ⟨bn5, kn5, .int, 2, none⟩ :: ⟨bn9, kn9, .double, 2, none⟩ :: ⟨r2, k_r2, .int, 0, some f_r2⟩ :: ⟨r3, k_r3, .double, 0, some f_r3⟩ :: aJ) := own_R_pick Bn20 6 [1, 0, 3, 2, 4, 5] trivial (by decide) (by decide)
  obtain ⟨cqk21, kqk21, qk21a, qk21b, qk21c⟩ := isOf hZ en20 (own_R_exa B22)
  obtain ⟨_, _, ⟨Tk21, Lk21, kk21, nk21⟩, -, Xk21, ⟨Lck21, hQk21, lk21, yk21, zk21⟩, stk21⟩ := Xn20.virtualBack hx (y := (⟨"com/example/placewright/placewright/solver/RevisedSimplex", "addColumn", "([I[DD)I"⟩ : MethodName)) (z := (⟨"com/example/placewright/placewright/solver/RevisedSimplex", "addColumn", "([I[DD)I"⟩ : MethodName)) hown (mvT hZ (own_W hw 137 rfl)) (mvT hZ (own_W hw 138 rfl)) (notFace_of_selects (args := #[]) (mvT hZ (own_W hw 140 rfl))) (mvT hZ (own_W hw 140 rfl)) (mvT hZ (own_W hw 139 rfl)) (by decide) (backOf (W := 0) (own_rm10a l Z a0 hw [] tt aA aK _ _ (⟨r2, k_r2, .int, 0, some f_r2⟩ :: ⟨r3, k_r3, .double, 0, some f_r3⟩ :: aJ) _ bn17 kn17 _ bn19 kn19 d5 bn5 kn5 bn9 kn9 d4 hn20 n0 (own_R_sz B22) B22 vt_15 rfl rfl rfl rfl rfl rfl at_10_0 c318_c252_c11_hc19) hZ (own_W hw 141 rfl) (own_W hw 7 rfl) (by decide) (by decide)) qk21a qk21c (g := (mkF m 318 (own_L29 tt d1 r2 r3 d4 d5 (own_v8a_0 d1 d4)) [(.double d5), (.ref bn19), (.ref bn17), (.ref tt)])) rfl (by rw [hml]; rfl) (Steps.refl _) (argsL := [(.ref bn17), (.ref bn19), (.double d5)]) (rest := []) (lenOf own_pd6 rfl) rfl (by show 2 * 0 + _ ≤ _; exact Nat.le_of_eq rfl) (hb hby own_d8_318) (fun _ _ => ⟨rfl, en20, (by decide : 4 + 2 ≤ _), (by decide : 6 + 2 ≤ _)⟩)
  dsimp only [Pt.U, Pt.locs, Pt.cells, Pt.slots] at Xk21 lk21 yk21 zk21 stk21 hQk21
  replace lk21 := lk21.symm; replace yk21 := yk21.symm; replace zk21 := zk21.symm; subst lk21 yk21 zk21
  obtain ⟨bk21_0, bk21_1, rfl, Nk21q, Bk21⟩ := hQk21
  have Nk21 := Fr.app Nn20 Nk21q
  obtain ⟨Tn23, Xn23, en23, stn23⟩ := getF Xk21 hx hZ hown (host := "") (Or.inl (own_W hw 45 rfl)) Via.refl rfl (own_ga Bk21 11 (by decide) (by decide)) (g := (mkF m 324 (own_L35 tt d1 r2 r3 d4 d5 (own_v8a_0 d1 d4)) [(.ref tt)])) rfl rfl (hb hby own_d8_324)
  obtain ⟨Tn24, hn24, Ln24, Xn24, en24, Bn24, Nn24, stn24⟩ := own_stD Xn23 hx hZ en23 Bk21 Nk21 11 0 (by decide) rfl (by decide) (g := (mkF m 330 (own_L35 tt d1 r2 r3 d4 d5 (own_v8a_0 d1 d4)) [(.double d1), (.int 0), (.ref (aA 11))])) rfl rfl (hb hby own_d8_330)
  obtain ⟨Tn25, Xn25, en25, stn25⟩ := getF Xn24 hx hZ hown (host := "") (Or.inl (own_W hw 47 rfl)) Via.refl en24 (own_ga Bn24 12 (by decide) (by decide)) (g := (mkF m 332 (own_L35 tt d1 r2 r3 d4 d5 (own_v8a_0 d1 d4)) [(.ref tt)])) rfl rfl (hb hby own_d8_332)
  obtain ⟨Tn26, hn26, Ln26, Xn26, en26, Bn26, Nn26, stn26⟩ := own_stI Xn25 hx hZ en25 Bn24 Nn24 12 0 (by decide) rfl (by decide) (g := (mkF m 339 (own_L35 tt d1 r2 r3 d4 d5 (own_v8a_0 d1 d4)) [(.int 0), (.int 0), (.ref (aA 12))])) rfl rfl (hb hby own_d8_339)
  obtain ⟨Tn27, Xn27, en27, stn27⟩ := getF Xn26 hx hZ hown (host := "") (Or.inl (own_W hw 49 rfl)) Via.refl en26 (own_ga Bn26 13 (by decide) (by decide)) (g := (mkF m 341 (own_L35 tt d1 r2 r3 d4 d5 (own_v8a_0 d1 d4)) [(.ref tt)])) rfl rfl (hb hby own_d8_341)
  obtain ⟨rk28, _, ⟨Tk28, Lk28, kk28, nk28⟩, -, Xk28, ⟨hvk28, hBk28⟩, stk28⟩ := Jvm.LawKit.callS Xn27 hx (y := (⟨"java/lang/Math", "max", "(DD)D"⟩ : MethodName)) hown (mvT hZ (own_W hw 167 rfl)) (mvT hZ (own_W hw 168 rfl)) (mvT hZ (own_W hw 3 rfl)) (mvT hZ (own_W hw 169 rfl)) (by decide) (Jvm.Free.Fl.Abs.maxD_pays (W := 2) (0 : UInt64) (own_v8a_0 d1 d4) (mvT hZ (own_W hw 169 rfl)) (by decide) (by decide)) (g := (mkF m 349 (own_L35 tt d1 r2 r3 d4 d5 (own_v8a_0 d1 d4)) [(.double (own_v8a_0 d1 d4)), (.double 0), (.int 0), (.ref (aA 13))])) rfl (by rw [hml]; rfl) (argsL := [(.double 0), (.double (own_v8a_0 d1 d4))]) (rest := [(.int 0), (.ref (aA 13))]) (lenOf own_pd7 rfl) rfl (by show 2 * 0 + _ ≤ _; exact Nat.le_of_eq rfl) (hb hby own_d8_349) (fun _ _ => ⟨(by decide : 6 ≤ _), (by decide : 8 ≤ _), rfl, nx349, ny349⟩)
  subst hvk28
  simp only [Prod.mk.injEq] at hBk28; obtain ⟨hUk28, hLk28, hck28, hnk28⟩ := hBk28
  dsimp only [Pt.U, Pt.locs, Pt.cells, Pt.slots] at Xk28 stk28
  subst hLk28 hck28 hnk28
  have ek28 : Tk28.heap = hn26 := (congrArg State.heap hUk28).trans en27
  obtain ⟨Tn29, hn29, Ln29, Xn29, en29, Bn29, Nn29, stn29⟩ := own_stD Xk28 hx hZ ek28 Bn26 Nn26 13 0 (by decide) rfl (by decide) (g := (mkF m 352 (own_L35 tt d1 r2 r3 d4 d5 (own_v8a_0 d1 d4)) [(.double (Native.java_lang_Math.nans.pick64 true (0 : UInt64) (own_v8a_0 d1 d4))), (.int 0), (.ref (aA 13))])) rfl rfl (hb hby own_d8_352)
  obtain ⟨Tn30, Xn30, en30, stn30⟩ := getF Xn29 hx hZ hown (host := "") (Or.inl (own_W hw 26 rfl)) Via.refl en29 (own_ga Bn29 3 (by decide) (by decide)) (g := (mkF m 354 (own_L35 tt d1 r2 r3 d4 d5 (own_v8a_0 d1 d4)) [(.ref tt)])) rfl rfl (hb hby own_d8_354)
  obtain ⟨Tn31, hn31, Ln31, Xn31, en31, Bn31, Nn31, stn31⟩ := own_stI Xn30 hx hZ en30 Bn29 Nn29 3 0 (by decide) rfl (by decide) (g := (mkF m 361 (own_L35 tt d1 r2 r3 d4 d5 (own_v8a_0 d1 d4)) [(.int 0), (.int 0), (.ref (aA 3))])) rfl rfl (hb hby own_d8_361)
  obtain ⟨fs, hr, hrun, hended, hW, hsame⟩ := Xn31.leave (v := some (.int 0)) (fun h => by rw [Bd.returns] at h; cases h)
  refine ⟨_, _, pre0 _ (?_), hrun, hended, _, _, rfl, ?_, ⟨_, rfl⟩, hW, hsame.mono (by decide) (by decide)⟩
  · show Steps p.tables e below (s₁.setTop (mkF m 0 (own_L24 tt d1 r2 r3 d4 d5) [])) _
    refine XS.aloadN X0.here hx rfl (hb hby own_d8_0) rfl rfl ?_
    refine stn1 _ ?_
    refine XS.istore Xn1.here hx rfl (hb hby own_d8_4) rfl (l' := (own_L25 tt d1 r2 r3 d4 d5)) rfl ?_
    refine XS.iload Xn1.here hx rfl (hb hby own_d8_6) rfl ?_
    refine XS.aloadN Xn1.here hx rfl (hb hby own_d8_8) rfl rfl ?_
    refine stn2 _ ?_
    show Steps p.tables e below (Tn2.setTop (mkF m 12 (own_L25 tt d1 r2 r3 d4 d5) [(.int 16), (.int 0)])) _
    refine XS.icmpYes Xn2.here hx rfl (pc0 := 12) (pc' := 19) rfl (hb hby own_d8_12) rfl (XT.ii_ne_t (by decide : ¬ ((0 : Int32) = (16 : Int32)))) (by decide) (by decide) ?_
    refine XS.aloadN Xn2.here hx rfl (hb hby own_d8_19) rfl rfl ?_
    refine stn3 _ ?_
    show Steps p.tables e below (Tn3.setTop (mkF m 23 (own_L25 tt d1 r2 r3 d4 d5) [(.ref (aA 6))])) _
    refine XS.iload Xn3.here hx rfl (hb hby own_d8_23) rfl ?_
    refine XS.aloadN Xn3.here hx rfl (hb hby own_d8_25) rfl rfl ?_
    refine own_len Xn3 hx hZ en3 (own_en (m := 0) B0 rfl) (g := (mkF m 26 (own_L25 tt d1 r2 r3 d4 d5) [(.ref r2), (.int 0), (.ref (aA 6))])) rfl rfl (hb hby own_d8_26) _ ?_
    show Steps p.tables e below (Tn3.setTop (mkF m 27 (own_L25 tt d1 r2 r3 d4 d5) [(.int 0), (.int 0), (.ref (aA 6))])) _
    refine XS.iconst Xn3.here hx rfl (hb hby own_d8_27) ?_
    refine XS.iadd Xn3.here hx rfl (hb hby own_d8_28) rfl ?_
    refine XS.iconst Xn3.here hx rfl (hb hby own_d8_29) ?_
    refine stk4 _ ?_
    show Steps p.tables e below (Tk4.setTop (mkF m 33 (own_L25 tt d1 r2 r3 d4 d5) [(.int 2), (.int 0), (.ref (aA 6))])) _
    refine stn5 _ ?_
    refine stn6 _ ?_
    refine XS.aloadN Xn6.here hx rfl (hb hby own_d8_36) rfl rfl ?_
    refine stn7 _ ?_
    show Steps p.tables e below (Tn7.setTop (mkF m 40 (own_L25 tt d1 r2 r3 d4 d5) [(.ref (aA 7))])) _
    refine XS.iload Xn7.here hx rfl (hb hby own_d8_40) rfl ?_
    refine XS.aloadN Xn7.here hx rfl (hb hby own_d8_42) rfl rfl ?_
    refine stn8 _ ?_
    show Steps p.tables e below (Tn8.setTop (mkF m 46 (own_L25 tt d1 r2 r3 d4 d5) [(.ref (aA 6)), (.int 0), (.ref (aA 7))])) _
    refine XS.iload Xn8.here hx rfl (hb hby own_d8_46) rfl ?_
    refine own_ldR Xn8 hx hZ en8 (own_pk Bn6 6 (by decide)) 0 (by decide) (v := (.ref bn5)) rfl (g := (mkF m 48 (own_L25 tt d1 r2 r3 d4 d5) [(.int 0), (.ref (aA 6)), (.int 0), (.ref (aA 7))])) rfl rfl (hb hby own_d8_48) _ ?_
    refine own_len Xn8 hx hZ en8 (own_en (m := 0) Bn6 rfl) (g := (mkF m 49 (own_L25 tt d1 r2 r3 d4 d5) [(.ref bn5), (.int 0), (.ref (aA 7))])) rfl rfl (hb hby own_d8_49) _ ?_
    show Steps p.tables e below (Tn8.setTop (mkF m 50 (own_L25 tt d1 r2 r3 d4 d5) [(.int 2), (.int 0), (.ref (aA 7))])) _
    refine stn9 _ ?_
    refine stn10 _ ?_
    refine XS.aloadN Xn10.here hx rfl (hb hby own_d8_53) rfl rfl ?_
    refine stn11 _ ?_
    show Steps p.tables e below (Tn11.setTop (mkF m 57 (own_L25 tt d1 r2 r3 d4 d5) [(.ref (aA 8))])) _
    refine XS.iload Xn11.here hx rfl (hb hby own_d8_57) rfl ?_
    refine XS.iconst Xn11.here hx rfl (hb hby own_d8_59) ?_
    refine stn12 _ ?_
    show Steps p.tables e below (Tn12.setTop (mkF m 61 (own_L25 tt d1 r2 r3 d4 d5) [])) _
    refine XS.iconst Xn12.here hx rfl (hb hby own_d8_61) ?_
    refine XS.istore Xn12.here hx rfl (hb hby own_d8_62) rfl (l' := (own_L26 tt d1 r2 r3 d4 d5)) rfl ?_
    refine XS.iload Xn12.here hx rfl (hb hby own_d8_64) rfl ?_
    refine XS.aloadN Xn12.here hx rfl (hb hby own_d8_66) rfl rfl ?_
    refine own_len Xn12 hx hZ en12 (own_en (m := 2) Bn12 rfl) (g := (mkF m 67 (own_L26 tt d1 r2 r3 d4 d5) [(.ref r2), (.int 0)])) rfl rfl (hb hby own_d8_67) _ ?_
    show Steps p.tables e below (Tn12.setTop (mkF m 68 (own_L26 tt d1 r2 r3 d4 d5) [(.int 0), (.int 0)])) _
    refine XS.icmpYes Xn12.here hx rfl (pc0 := 68) (pc' := 193) rfl (hb hby own_d8_68) rfl (XT.ii_ge_t (by decide : ¬ ((0 : Int32) < (0 : Int32)))) (by decide) (by decide) ?_
    refine XS.dconst0 Xn12.here hx rfl (hb hby own_d8_193) (v := (0 : UInt64)) (by decide +kernel) ?_
    refine XS.dstore Xn12.here hx rfl (hb hby own_d8_194) rfl (l' := (own_L27 tt d1 r2 r3 d4 d5)) rfl ?_
    refine XS.iconst Xn12.here hx rfl (hb hby own_d8_196) ?_
    refine XS.istore Xn12.here hx rfl (hb hby own_d8_197) rfl (l' := (own_L28 tt d1 r2 r3 d4 d5)) rfl ?_
    refine XS.iload Xn12.here hx rfl (hb hby own_d8_199) rfl ?_
    refine XS.aloadN Xn12.here hx rfl (hb hby own_d8_201) rfl rfl ?_
    refine own_len Xn12 hx hZ en12 (own_en (m := 2) Bn12 rfl) (g := (mkF m 202 (own_L28 tt d1 r2 r3 d4 d5) [(.ref r2), (.int 0)])) rfl rfl (hb hby own_d8_202) _ ?_
    show Steps p.tables e below (Tn12.setTop (mkF m 203 (own_L28 tt d1 r2 r3 d4 d5) [(.int 0), (.int 0)])) _
    refine XS.icmpYes Xn12.here hx rfl (pc0 := 203) (pc' := 246) rfl (hb hby own_d8_203) rfl (XT.ii_ge_t (by decide : ¬ ((0 : Int32) < (0 : Int32)))) (by decide) (by decide) ?_
    refine XS.dloadN Xn12.here hx rfl (hb hby own_d8_246) rfl ?_
    refine XS.dload Xn12.here hx rfl (hb hby own_d8_247) rfl ?_
    refine XS.dsubS Xn12.here hx rfl (hb hby own_d8_249) rfl nn249 rfl ?_
    refine XS.dload Xn12.here hx rfl (hb hby own_d8_250) rfl ?_
    refine XS.ddivS Xn12.here hx rfl (hb hby own_d8_252) rfl nn252 rfl ?_
    refine XS.dstore Xn12.here hx rfl (hb hby own_d8_253) rfl (l' := (own_L29 tt d1 r2 r3 d4 d5 (own_v8a_0 d1 d4))) rfl ?_
    refine XS.dload Xn12.here hx rfl (hb hby own_d8_255) rfl ?_
    refine Xn12.ldc2DoubleC hx hown (mvT hZ (own_W hw 134 rfl)) (g := (mkF m 257 (own_L29 tt d1 r2 r3 d4 d5 (own_v8a_0 d1 d4)) [(.double (own_v8a_0 d1 d4))])) rfl (hb hby own_d8_257) _ ?_
    show Steps p.tables e below (Tn12.setTop (mkF m 260 (own_L29 tt d1 r2 r3 d4 d5 (own_v8a_0 d1 d4)) [(.double 13695778570484766357), (.double (own_v8a_0 d1 d4))])) _
    refine XS.dcmpS Xn12.here hx rfl (hb hby own_d8_260) rfl rfl ?_
    refine XS.ifYes Xn12.here hx rfl (pc0 := 261) (pc' := 279) rfl (hb hby own_d8_261) rfl (XT.i0_ge_t hc261) (by decide) (by decide) ?_
    refine XS.aloadN Xn12.here hx rfl (hb hby own_d8_279) rfl rfl ?_
    refine XS.dup Xn12.here hx rfl (hb hby own_d8_280) rfl rfl ?_
    refine stn13 _ ?_
    show Steps p.tables e below (Tn13.setTop (mkF m 284 (own_L29 tt d1 r2 r3 d4 d5 (own_v8a_0 d1 d4)) [(.int 0), (.ref tt)])) _
    refine XS.iconst Xn13.here hx rfl (hb hby own_d8_284) ?_
    refine XS.iadd Xn13.here hx rfl (hb hby own_d8_285) rfl ?_
    refine stn14 _ ?_
    show Steps p.tables e below (Tn14.setTop (mkF m 289 (own_L29 tt d1 r2 r3 d4 d5 (own_v8a_0 d1 d4)) [])) _
    refine XS.aloadN Xn14.here hx rfl (hb hby own_d8_289) rfl rfl ?_
    refine XS.iconst Xn14.here hx rfl (hb hby own_d8_290) ?_
    refine stn15 _ ?_
    show Steps p.tables e below (Tn15.setTop (mkF m 294 (own_L29 tt d1 r2 r3 d4 d5 (own_v8a_0 d1 d4)) [])) _
    refine XS.aloadN Xn15.here hx rfl (hb hby own_d8_294) rfl rfl ?_
    refine XS.iconst Xn15.here hx rfl (hb hby own_d8_295) ?_
    refine stn16 _ ?_
    show Steps p.tables e below (Tn16.setTop (mkF m 299 (own_L29 tt d1 r2 r3 d4 d5 (own_v8a_0 d1 d4)) [])) _
    refine XS.aloadN Xn16.here hx rfl (hb hby own_d8_299) rfl rfl ?_
    refine XS.iconst Xn16.here hx rfl (hb hby own_d8_300) ?_
    refine stn17 _ ?_
    show Steps p.tables e below (Tn17.setTop (mkF m 303 (own_L29 tt d1 r2 r3 d4 d5 (own_v8a_0 d1 d4)) [(.ref bn17), (.ref tt)])) _
    refine XS.dup Xn17.here hx rfl (hb hby own_d8_303) rfl rfl ?_
    refine XS.iconst Xn17.here hx rfl (hb hby own_d8_304) ?_
    refine XS.iload Xn17.here hx rfl (hb hby own_d8_305) rfl ?_
    refine stn18 _ ?_
    show Steps p.tables e below (Tn18.setTop (mkF m 308 (own_L29 tt d1 r2 r3 d4 d5 (own_v8a_0 d1 d4)) [(.ref bn17), (.ref tt)])) _
    refine XS.iconst Xn18.here hx rfl (hb hby own_d8_308) ?_
    refine stn19 _ ?_
    refine XS.dup Xn19.here hx rfl (hb hby own_d8_311) rfl rfl ?_
    refine XS.iconst Xn19.here hx rfl (hb hby own_d8_312) ?_
    refine XS.dload Xn19.here hx rfl (hb hby own_d8_313) rfl ?_
    refine stn20 _ ?_
    show Steps p.tables e below (Tn20.setTop (mkF m 316 (own_L29 tt d1 r2 r3 d4 d5 (own_v8a_0 d1 d4)) [(.ref bn19), (.ref bn17), (.ref tt)])) _
    refine XS.dload Xn20.here hx rfl (hb hby own_d8_316) rfl ?_
    refine stk21.trans ?_
    refine XS.istore Xk21.here hx rfl (hb hby own_d8_321) rfl (l' := (own_L35 tt d1 r2 r3 d4 d5 (own_v8a_0 d1 d4))) rfl ?_
    refine XS.aloadN Xk21.here hx rfl (hb hby own_d8_323) rfl rfl ?_
    refine stn23 _ ?_
    show Steps p.tables e below (Tn23.setTop (mkF m 327 (own_L35 tt d1 r2 r3 d4 d5 (own_v8a_0 d1 d4)) [(.ref (aA 11))])) _
    refine XS.iload Xn23.here hx rfl (hb hby own_d8_327) rfl ?_
    refine XS.dloadN Xn23.here hx rfl (hb hby own_d8_329) rfl ?_
    refine stn24 _ ?_
    show Steps p.tables e below (Tn24.setTop (mkF m 331 (own_L35 tt d1 r2 r3 d4 d5 (own_v8a_0 d1 d4)) [])) _
    refine XS.aloadN Xn24.here hx rfl (hb hby own_d8_331) rfl rfl ?_
    refine stn25 _ ?_
    refine XS.iload Xn25.here hx rfl (hb hby own_d8_335) rfl ?_
    refine XS.iload Xn25.here hx rfl (hb hby own_d8_337) rfl ?_
    refine stn26 _ ?_
    show Steps p.tables e below (Tn26.setTop (mkF m 340 (own_L35 tt d1 r2 r3 d4 d5 (own_v8a_0 d1 d4)) [])) _
    refine XS.aloadN Xn26.here hx rfl (hb hby own_d8_340) rfl rfl ?_
    refine stn27 _ ?_
    refine XS.iload Xn27.here hx rfl (hb hby own_d8_344) rfl ?_
    refine XS.dconst0 Xn27.here hx rfl (hb hby own_d8_346) (v := (0 : UInt64)) (by decide +kernel) ?_
    show Steps p.tables e below (Tn27.setTop (mkF m 347 (own_L35 tt d1 r2 r3 d4 d5 (own_v8a_0 d1 d4)) [(.double 0), (.int 0), (.ref (aA 13))])) _
    refine XS.dload Xn27.here hx rfl (hb hby own_d8_347) rfl ?_
    refine stk28 _ ?_
    refine stn29 _ ?_
    show Steps p.tables e below (Tn29.setTop (mkF m 353 (own_L35 tt d1 r2 r3 d4 d5 (own_v8a_0 d1 d4)) [])) _
    refine XS.aloadN Xn29.here hx rfl (hb hby own_d8_353) rfl rfl ?_
    refine stn30 _ ?_
    refine XS.iload Xn30.here hx rfl (hb hby own_d8_357) rfl ?_
    refine XS.iload Xn30.here hx rfl (hb hby own_d8_359) rfl ?_
    refine stn31 _ ?_
    show Steps p.tables e below (Tn31.setTop (mkF m 362 (own_L35 tt d1 r2 r3 d4 d5 (own_v8a_0 d1 d4)) [])) _
    refine XS.iload Xn31.here hx rfl (hb hby own_d8_362) rfl ?_
    show Steps p.tables e below (Tn31.setTop (mkF m 364 (own_L35 tt d1 r2 r3 d4 d5 (own_v8a_0 d1 d4)) [(.int 0)])) _
    exact retI Xn31 hx Bd.returns (hb hby own_d8_364) hr
  · show own_Q8a Z tt aA aK aF aV aJ d1 f_r2 r2 k_r2 f_r3 r3 k_r3 d4 d5 h0 n0 _ Tn31.heap _
    rw [en31]
    exact ⟨bk21_0, kn19, bk21_1, kn17, bn5, kn5, bn9, kn9, rfl, Nn31, (own_R_pick Bn31 8 [0, 1, 4, 5, 6, 7] trivial (by decide) (by decide))⟩
theorem own_pd8 : parseMethodDescriptor "(D[I[DDD)I" = some ⟨[.double, (.array .int), (.array .double), .double, .double], some .int⟩ := by decide +kernel
def own_L36 (x0 : Int32) (x1 : Int32) (x2 : Int32) (x3 : Int32) (x4 : Int32) (x5 : Int32) (x6 : Int32) (x7 : Int32) (x8 : Int32) (x9 : Int32) (x10 : Int32) (x11 : Int32) (x12 : Int32) (x13 : Int32) (x14 : Int32) (x15 : Addr) : Array Slot := #[.val (.int x0), .val (.int x1), .val (.int x2), .val (.int x3), .val (.int x4), .val (.int x5), .val (.int x6), .val (.int x7), .val (.int x8), .val (.int x9), .val (.int x10), .val (.int x11), .val (.int x12), .val (.int 1), .val (.int x13), .val (.int x14), .val (.int 1), .val (.int 0), .val (.ref x15), .val (.long 0), .second, .val (.int 0), .unset, .unset, .unset, .unset, .unset, .unset]
def own_L37 (x0 : Addr) (x1 : Addr) (x2 : Addr) (x3 : UInt64) : Array Slot := #[.val (.ref x0), .val (.ref x1), .val (.ref x2), .val (.double x3), .second, .val (.int 1), .unset]
def own_L38 (x0 : Addr) (x1 : Addr) (x2 : Addr) (x3 : UInt64) : Array Slot := #[.val (.ref x0), .val (.ref x1), .val (.ref x2), .val (.double x3), .second, .val (.int 1), .val (.int 0)]
def own_L39 (x0 : Addr) : Array Slot := #[.val (.ref x0), .val (.int 0), .val (.int 1), .val (.double 4607182418800017408), .second]
theorem own_ef11b (m : MethodId) (tt : Addr) : entryFrame m #[(.ref tt), (.int 0), (.int 1), (.double 4607182418800017408)] 5 = mkF m 0 #[.val (.ref tt), .val (.int 0), .val (.int 1), .val (.double 4607182418800017408), .second] [] := by first | (simp [entryFrame, mkF, argsToLocals, Value.category]; done) | rfl
def own_Q11b (Z : State) (tt : Addr) (aA : Nat → Addr) (aK : Nat → ClassId) (aF : Nat → Nat → Value) (aV : Nat → Value) (aJ : List own_e) (y0 : Addr) (k_y0 : ClassId) (y1 : Addr) (k_y1 : ClassId) (h0 : Heap) (n0 : Nat) (v : Option Value) (h : Heap) (L : List Loc) : Prop := v = none ∧ Fr n0 L ∧ own_R 15 Z n0 h tt aA aK (own_up2 aF 8 0 (.int 2)) aV (⟨y0, k_y0, .int, 2, none⟩ :: ⟨y1, k_y1, .double, 2, none⟩ :: aJ)
set_option maxRecDepth 65536 in
set_option maxHeartbeats 40000000 in
theorem own_rm11b (l : Launch) (Z : State) (a0 : Array Value) (hw : ∀ d ∈ tables_1, d.before a0 Z = true) (ws : List Jvm.Cond) (tt : Addr) (aA : Nat → Addr) (aK : Nat → ClassId) (aF : Nat → Nat → Value) (aV : Nat → Value) (aJ : List own_e) (y0 : Addr) (k_y0 : ClassId) (y1 : Addr) (k_y1 : ClassId) (h0 : Heap) (n0 : Nat) (Z0 : n0 ≤ h0.size) (B0 : own_R 15 Z n0 h0 tt aA aK aF aV (⟨y0, k_y0, .int, 2, none⟩ :: ⟨y1, k_y1, .double, 2, none⟩ :: aJ)) (at_8_0 : aF 8 0 = (.int 1)) (at_6_0 : aF 6 0 = (.ref y0)) (at_7_0 : aF 7 0 = (.ref y1)) :
    MetFree l (⟨"com/example/placewright/placewright/solver/RevisedSimplex", "addToRow", "(IID)V"⟩ : MethodName) (head1 (Jvm.Cond.code (⟨"com/example/placewright/placewright/solver/RevisedSimplex", "addToRow", "(IID)V"⟩ : MethodName) prog_29_method_4_code 5 none :: ws) ({ frames := 0, cells := 0, slots := 0, locals := 0 } : Room)) (fun a U => a = #[(.ref tt), (.int 0), (.int 1), (.double 4607182418800017408)] ∧ Z.Warmed39 U.vm ∧ U.heap = h0) (fun _ _ _ _ _ => True) (fun _ U o U' => ∃ v L, o = .returned v ∧ own_Q11b Z tt aA aK aF aV aJ y0 k_y0 y1 k_y1 h0 n0 v U'.heap L ∧ FrameEnd U o U' L ({ frames := 0, cells := 0, slots := 0, locals := 0 } : Room).cells ({ frames := 0, cells := 0, slots := 0, locals := 0 } : Room).slots) := by
  refine MetFree.of_bodySF (plainFor_of_name own_pn4) hisR ?_
  intro p e s m args below meth c s₁ Bd hml0 hP hK
  obtain ⟨rfl, hZ, hh⟩ := hP
  have hx := Bd.exec
  have hby := Bd.bytes
  have hml : c.maxLocals = 5 := hml0
  have hown : s.vm.findClass "com/example/placewright/placewright/solver/RevisedSimplex" = some m.cls := findClass_of_methodNamed Bd.named
  have hnm := (name_of_methodNamed Bd.named Bd.method).1
  have X0 : Stand p l e ({ frames := 0, cells := 0, slots := 0, locals := 0 } : Room) s m #[(.ref tt), (.int 0), (.int 1), (.double 4607182418800017408)] below meth c s₁ [] 0 0 := Stand.of_body Bd
  have e0 : s₁.heap = h0 := by rw [← hh, Bd.state]; rfl
  have N0 := Fr.nil n0
  have Zr : h0.size ≤ h0.size := Nat.le_refl _
  have pre0 : ∀ t, Steps p.tables e below (s₁.setTop (mkF m 0 #[.val (.ref tt), .val (.int 0), .val (.int 1), .val (.double 4607182418800017408), .second] [])) t → Steps p.tables e below (s₁.setTop (entryFrame m #[(.ref tt), (.int 0), (.int 1), (.double 4607182418800017408)] 5)) t := fun t k => castTop (own_ef11b m tt) k
  obtain ⟨Tn1, Xn1, en1, stn1⟩ := getF X0 hx hZ hown (host := "") (Or.inl (own_W hw 36 rfl)) Via.refl e0 (own_ga B0 8 (by decide) (by decide)) (g := (mkF m 1 (own_L39 tt) [(.ref tt)])) rfl rfl (hb hby own_d11_1)
  obtain ⟨Tn2, Xn2, en2, stn2⟩ := getF Xn1 hx hZ hown (host := "") (Or.inl (own_W hw 32 rfl)) Via.refl en1 (own_ga B0 6 (by decide) (by decide)) (g := (mkF m 7 (own_L39 tt) [(.ref tt), (.int 1)])) rfl rfl (hb hby own_d11_7)
  obtain ⟨Tn3, Xn3, en3, stn3⟩ := getF Xn2 hx hZ hown (host := "") (Or.inl (own_W hw 32 rfl)) Via.refl en2 (own_ga B0 6 (by decide) (by decide)) (g := (mkF m 63 (own_L39 tt) [(.ref tt)])) rfl rfl (hb hby own_d11_63)
  obtain ⟨Tn4, Xn4, en4, stn4⟩ := getF Xn3 hx hZ hown (host := "") (Or.inl (own_W hw 36 rfl)) Via.refl en3 (own_ga B0 8 (by decide) (by decide)) (g := (mkF m 69 (own_L39 tt) [(.ref tt), (.ref y0)])) rfl rfl (hb hby own_d11_69)
  obtain ⟨Tn5, hn5, Ln5, Xn5, en5, Bn5, Nn5, stn5⟩ := own_seI Xn4 hx hZ en4 B0 N0 0 1 rfl (by decide) (g := (mkF m 75 (own_L39 tt) [(.int 1), (.int 1), (.ref y0)])) rfl rfl (hb hby own_d11_75)
  obtain ⟨Tn6, Xn6, en6, stn6⟩ := getF Xn5 hx hZ hown (host := "") (Or.inl (own_W hw 34 rfl)) Via.refl en5 (own_ga Bn5 7 (by decide) (by decide)) (g := (mkF m 77 (own_L39 tt) [(.ref tt)])) rfl rfl (hb hby own_d11_77)
  obtain ⟨Tn7, Xn7, en7, stn7⟩ := getF Xn6 hx hZ hown (host := "") (Or.inl (own_W hw 36 rfl)) Via.refl en6 (own_ga Bn5 8 (by decide) (by decide)) (g := (mkF m 83 (own_L39 tt) [(.ref tt), (.ref y1)])) rfl rfl (hb hby own_d11_83)
  obtain ⟨Tn8, hn8, Ln8, Xn8, en8, Bn8, Nn8, stn8⟩ := own_seD Xn7 hx hZ en7 Bn5 Nn5 1 1 rfl (by decide) (g := (mkF m 89 (own_L39 tt) [(.double 4607182418800017408), (.int 1), (.ref y1)])) rfl rfl (hb hby own_d11_89)
  obtain ⟨Tn9, Xn9, en9, stn9⟩ := getF Xn8 hx hZ hown (host := "") (Or.inl (own_W hw 36 rfl)) Via.refl en8 (own_ga Bn8 8 (by decide) (by decide)) (g := (mkF m 91 (own_L39 tt) [(.ref tt)])) rfl rfl (hb hby own_d11_91)
  obtain ⟨Tn10, hn10, Ln10, Xn10, en10, Bn10, Nn10, stn10⟩ := own_stI Xn9 hx hZ en9 Bn8 Nn8 8 0 (by decide) rfl (by decide) (g := (mkF m 99 (own_L39 tt) [(.int 2), (.int 0), (.ref (aA 8))])) rfl rfl (hb hby own_d11_99)
  obtain ⟨fs, hr, hrun, hended, hW, hsame⟩ := Xn10.leave (v := none) (fun _ => rfl)
  refine ⟨_, _, pre0 _ (?_), hrun, hended, _, _, rfl, ?_, ⟨_, rfl⟩, hW, hsame.mono (by decide) (by decide)⟩
  · show Steps p.tables e below (s₁.setTop (mkF m 0 (own_L39 tt) [])) _
    refine XS.aloadN X0.here hx rfl (hb hby own_d11_0) rfl rfl ?_
    refine stn1 _ ?_
    refine XS.iloadN Xn1.here hx rfl (hb hby own_d11_4) rfl ?_
    refine own_ldI Xn1 hx hZ en1 (own_pk B0 8 (by decide)) 0 (by decide) (v := (.int 1)) at_8_0 (g := (mkF m 5 (own_L39 tt) [(.int 0), (.ref (aA 8))])) rfl rfl (hb hby own_d11_5) _ ?_
    show Steps p.tables e below (Tn1.setTop (mkF m 6 (own_L39 tt) [(.int 1)])) _
    refine XS.aloadN Xn1.here hx rfl (hb hby own_d11_6) rfl rfl ?_
    refine stn2 _ ?_
    refine XS.iloadN Xn2.here hx rfl (hb hby own_d11_10) rfl ?_
    refine own_ldR Xn2 hx hZ en2 (own_pk B0 6 (by decide)) 0 (by decide) (v := (.ref y0)) at_6_0 (g := (mkF m 11 (own_L39 tt) [(.int 0), (.ref (aA 6)), (.int 1)])) rfl rfl (hb hby own_d11_11) _ ?_
    show Steps p.tables e below (Tn2.setTop (mkF m 12 (own_L39 tt) [(.ref y0), (.int 1)])) _
    refine own_len Xn2 hx hZ en2 (own_en (m := 0) B0 rfl) (g := (mkF m 12 (own_L39 tt) [(.ref y0), (.int 1)])) rfl rfl (hb hby own_d11_12) _ ?_
    refine XS.icmpYes Xn2.here hx rfl (pc0 := 13) (pc' := 62) rfl (hb hby own_d11_13) rfl (XT.ii_ne_t (by decide : ¬ ((1 : Int32) = (2 : Int32)))) (by decide) (by decide) ?_
    refine XS.aloadN Xn2.here hx rfl (hb hby own_d11_62) rfl rfl ?_
    refine stn3 _ ?_
    show Steps p.tables e below (Tn3.setTop (mkF m 66 (own_L39 tt) [(.ref (aA 6))])) _
    refine XS.iloadN Xn3.here hx rfl (hb hby own_d11_66) rfl ?_
    refine own_ldR Xn3 hx hZ en3 (own_pk B0 6 (by decide)) 0 (by decide) (v := (.ref y0)) at_6_0 (g := (mkF m 67 (own_L39 tt) [(.int 0), (.ref (aA 6))])) rfl rfl (hb hby own_d11_67) _ ?_
    refine XS.aloadN Xn3.here hx rfl (hb hby own_d11_68) rfl rfl ?_
    refine stn4 _ ?_
    show Steps p.tables e below (Tn4.setTop (mkF m 72 (own_L39 tt) [(.ref (aA 8)), (.ref y0)])) _
    refine XS.iloadN Xn4.here hx rfl (hb hby own_d11_72) rfl ?_
    refine own_ldI Xn4 hx hZ en4 (own_pk B0 8 (by decide)) 0 (by decide) (v := (.int 1)) at_8_0 (g := (mkF m 73 (own_L39 tt) [(.int 0), (.ref (aA 8)), (.ref y0)])) rfl rfl (hb hby own_d11_73) _ ?_
    refine XS.iloadN Xn4.here hx rfl (hb hby own_d11_74) rfl ?_
    refine stn5 _ ?_
    show Steps p.tables e below (Tn5.setTop (mkF m 76 (own_L39 tt) [])) _
    refine XS.aloadN Xn5.here hx rfl (hb hby own_d11_76) rfl rfl ?_
    refine stn6 _ ?_
    refine XS.iloadN Xn6.here hx rfl (hb hby own_d11_80) rfl ?_
    refine own_ldR Xn6 hx hZ en6 (own_pk Bn5 7 (by decide)) 0 (by decide) (v := (.ref y1)) at_7_0 (g := (mkF m 81 (own_L39 tt) [(.int 0), (.ref (aA 7))])) rfl rfl (hb hby own_d11_81) _ ?_
    show Steps p.tables e below (Tn6.setTop (mkF m 82 (own_L39 tt) [(.ref y1)])) _
    refine XS.aloadN Xn6.here hx rfl (hb hby own_d11_82) rfl rfl ?_
    refine stn7 _ ?_
    refine XS.iloadN Xn7.here hx rfl (hb hby own_d11_86) rfl ?_
    refine own_ldI Xn7 hx hZ en7 (own_pk Bn5 8 (by decide)) 0 (by decide) (v := (.int 1)) at_8_0 (g := (mkF m 87 (own_L39 tt) [(.int 0), (.ref (aA 8)), (.ref y1)])) rfl rfl (hb hby own_d11_87) _ ?_
    show Steps p.tables e below (Tn7.setTop (mkF m 88 (own_L39 tt) [(.int 1), (.ref y1)])) _
    refine XS.dloadN Xn7.here hx rfl (hb hby own_d11_88) rfl ?_
    refine stn8 _ ?_
    refine XS.aloadN Xn8.here hx rfl (hb hby own_d11_90) rfl rfl ?_
    refine stn9 _ ?_
    show Steps p.tables e below (Tn9.setTop (mkF m 94 (own_L39 tt) [(.ref (aA 8))])) _
    refine XS.iloadN Xn9.here hx rfl (hb hby own_d11_94) rfl ?_
    show Steps p.tables e below (Tn9.setTop (mkF m 95 (own_L39 tt) [(.int 0), (.ref (aA 8))])) _
    refine XT.dup2 Xn9.here hx rfl (hb hby own_d11_95) rfl rfl rfl ?_
    refine own_ldI Xn9 hx hZ en9 (own_pk Bn8 8 (by decide)) 0 (by decide) (v := (.int 1)) at_8_0 (g := (mkF m 96 (own_L39 tt) [(.int 0), (.ref (aA 8)), (.int 0), (.ref (aA 8))])) rfl rfl (hb hby own_d11_96) _ ?_
    refine XS.iconst Xn9.here hx rfl (hb hby own_d11_97) ?_
    refine XS.iadd Xn9.here hx rfl (hb hby own_d11_98) rfl ?_
    show Steps p.tables e below (Tn9.setTop (mkF m 99 (own_L39 tt) [(.int 2), (.int 0), (.ref (aA 8))])) _
    refine stn10 _ ?_
    show Steps p.tables e below (Tn10.setTop (mkF m 100 (own_L39 tt) [])) _
    exact Xn10.returnOut hx Bd.returns (hb hby own_d11_100) hr
  · show own_Q11b Z tt aA aK aF aV aJ y0 k_y0 y1 k_y1 h0 n0 _ Tn10.heap _
    rw [en10]
    exact ⟨rfl, Nn10, Bn10⟩
def own_L40 (x0 : Addr) (x1 : Addr) (x2 : Addr) (x3 : UInt64) : Array Slot := #[.val (.ref x0), .val (.ref x1), .val (.ref x2), .val (.double x3), .second, .val (.int 1), .val (.int 1)]
theorem own_ef13b (m : MethodId) (tt : Addr) : entryFrame m #[(.ref tt), (.int 1)] 2 = mkF m 0 #[.val (.ref tt), .val (.int 1)] [] := by first | (simp [entryFrame, mkF, argsToLocals, Value.category]; done) | rfl
def own_Q13b (Z : State) (tt : Addr) (aA : Nat → Addr) (aK : Nat → ClassId) (aF : Nat → Nat → Value) (aV : Nat → Value) (aJ : List own_e) (h0 : Heap) (n0 : Nat) (v : Option Value) (h : Heap) (L : List Loc) : Prop := v = some (.int 0) ∧ Fr n0 L ∧ own_R 15 Z n0 h tt aA aK aF aV (aJ)
set_option maxRecDepth 65536 in
set_option maxHeartbeats 40000000 in
theorem own_rm13b (l : Launch) (Z : State) (a0 : Array Value) (hw : ∀ d ∈ tables_1, d.before a0 Z = true) (ws : List Jvm.Cond) (tt : Addr) (aA : Nat → Addr) (aK : Nat → ClassId) (aF : Nat → Nat → Value) (aV : Nat → Value) (aJ : List own_e) (h0 : Heap) (n0 : Nat) (Z0 : n0 ≤ h0.size) (B0 : own_R 15 Z n0 h0 tt aA aK aF aV (aJ)) (at_3_1 : aF 3 1 = (.int (-1 : Int32))) (at_4_1 : aF 4 1 = (.double 0)) (hc19 : ¬ ((cmpValue (FP.dcmp (0 : UInt64) (13695778570484766357 : UInt64)) .g) < (0 : Int32))) :
    MetFree l (⟨"com/example/placewright/placewright/solver/RevisedSimplex", "prices", "(I)Z"⟩ : MethodName) (head1 (Jvm.Cond.code (⟨"com/example/placewright/placewright/solver/RevisedSimplex", "prices", "(I)Z"⟩ : MethodName) prog_29_method_31_code 2 (some .boolean) :: ws) ({ frames := 0, cells := 0, slots := 0, locals := 0 } : Room)) (fun a U => a = #[(.ref tt), (.int 1)] ∧ Z.Warmed39 U.vm ∧ U.heap = h0) (fun _ _ _ _ _ => True) (fun _ U o U' => ∃ v L, o = .returned v ∧ own_Q13b Z tt aA aK aF aV aJ h0 n0 v U'.heap L ∧ FrameEnd U o U' L ({ frames := 0, cells := 0, slots := 0, locals := 0 } : Room).cells ({ frames := 0, cells := 0, slots := 0, locals := 0 } : Room).slots) := by
  refine MetFree.of_bodySF (plainFor_of_name own_pn4) hisR ?_
  intro p e s m args below meth c s₁ Bd hml0 hP hK
  obtain ⟨rfl, hZ, hh⟩ := hP
  have hx := Bd.exec
  have hby := Bd.bytes
  have hml : c.maxLocals = 2 := hml0
  have hown : s.vm.findClass "com/example/placewright/placewright/solver/RevisedSimplex" = some m.cls := findClass_of_methodNamed Bd.named
  have hnm := (name_of_methodNamed Bd.named Bd.method).1
  have X0 : Stand p l e ({ frames := 0, cells := 0, slots := 0, locals := 0 } : Room) s m #[(.ref tt), (.int 1)] below meth c s₁ [] 0 0 := Stand.of_body Bd
  have e0 : s₁.heap = h0 := by rw [← hh, Bd.state]; rfl
  have N0 := Fr.nil n0
  have Zr : h0.size ≤ h0.size := Nat.le_refl _
  have pre0 : ∀ t, Steps p.tables e below (s₁.setTop (mkF m 0 #[.val (.ref tt), .val (.int 1)] [])) t → Steps p.tables e below (s₁.setTop (entryFrame m #[(.ref tt), (.int 1)] 2)) t := fun t k => castTop (own_ef13b m tt) k
  obtain ⟨Tn1, Xn1, en1, stn1⟩ := getF X0 hx hZ hown (host := "") (Or.inl (own_W hw 26 rfl)) Via.refl e0 (own_ga B0 3 (by decide) (by decide)) (g := (mkF m 1 #[.val (.ref tt), .val (.int 1)] [(.ref tt)])) rfl rfl (hb hby own_d13_1)
  obtain ⟨Tn2, Xn2, en2, stn2⟩ := getF Xn1 hx hZ hown (host := "") (Or.inl (own_W hw 28 rfl)) Via.refl en1 (own_ga B0 4 (by decide) (by decide)) (g := (mkF m 10 #[.val (.ref tt), .val (.int 1)] [(.ref tt)])) rfl rfl (hb hby own_d13_10)
  obtain ⟨fs, hr, hrun, hended, hW, hsame⟩ := Xn2.leave (v := some (.int 0)) (fun h => by rw [Bd.returns] at h; cases h)
  refine ⟨_, _, pre0 _ (?_), hrun, hended, _, _, rfl, ?_, ⟨_, rfl⟩, hW, hsame.mono (by decide) (by decide)⟩
  · show Steps p.tables e below (s₁.setTop (mkF m 0 #[.val (.ref tt), .val (.int 1)] [])) _
    refine XS.aloadN X0.here hx rfl (hb hby own_d13_0) rfl rfl ?_
    refine stn1 _ ?_
    refine XS.iloadN Xn1.here hx rfl (hb hby own_d13_4) rfl ?_
    refine own_ldI Xn1 hx hZ en1 (own_pk B0 3 (by decide)) 1 (by decide) (v := (.int (-1 : Int32))) at_3_1 (g := (mkF m 5 #[.val (.ref tt), .val (.int 1)] [(.int 1), (.ref (aA 3))])) rfl rfl (hb hby own_d13_5) _ ?_
    show Steps p.tables e below (Tn1.setTop (mkF m 6 #[.val (.ref tt), .val (.int 1)] [(.int (-1 : Int32))])) _
    refine XS.ifNo Xn1.here hx rfl (hb hby own_d13_6) rfl (XT.i0_ge_f (by decide : (-1 : Int32) < (0 : Int32))) ?_
    refine XS.aloadN Xn1.here hx rfl (hb hby own_d13_9) rfl rfl ?_
    refine stn2 _ ?_
    show Steps p.tables e below (Tn2.setTop (mkF m 13 #[.val (.ref tt), .val (.int 1)] [(.ref (aA 4))])) _
    refine XS.iloadN Xn2.here hx rfl (hb hby own_d13_13) rfl ?_
    refine own_ldD Xn2 hx hZ en2 (own_pk B0 4 (by decide)) 1 (by decide) (v := (.double 0)) at_4_1 (g := (mkF m 14 #[.val (.ref tt), .val (.int 1)] [(.int 1), (.ref (aA 4))])) rfl rfl (hb hby own_d13_14) _ ?_
    refine Xn2.ldc2DoubleC hx hown (mvT hZ (own_W hw 134 rfl)) (g := (mkF m 15 #[.val (.ref tt), .val (.int 1)] [(.double 0)])) rfl (hb hby own_d13_15) _ ?_
    show Steps p.tables e below (Tn2.setTop (mkF m 18 #[.val (.ref tt), .val (.int 1)] [(.double 13695778570484766357), (.double 0)])) _
    refine XS.dcmpS Xn2.here hx rfl (hb hby own_d13_18) rfl rfl ?_
    refine XS.ifYes Xn2.here hx rfl (pc0 := 19) (pc' := 26) rfl (hb hby own_d13_19) rfl (XT.i0_ge_t hc19) (by decide) (by decide) ?_
    refine XS.iconst Xn2.here hx rfl (hb hby own_d13_26) ?_
    show Steps p.tables e below (Tn2.setTop (mkF m 27 #[.val (.ref tt), .val (.int 1)] [(.int 0)])) _
    exact retN Xn2 hx (t := .boolean) Bd.returns (by simp) (hb hby own_d13_27) hr
  · show own_Q13b Z tt aA aK aF aV aJ h0 n0 _ Tn2.heap _
    rw [en2]
    exact ⟨rfl, N0, B0⟩
theorem own_ef12b (m : MethodId) (tt : Addr) : entryFrame m #[(.ref tt), (.int 1)] 2 = mkF m 0 #[.val (.ref tt), .val (.int 1)] [] := by first | (simp [entryFrame, mkF, argsToLocals, Value.category]; done) | rfl
def own_Q12b (Z : State) (tt : Addr) (aA : Nat → Addr) (aK : Nat → ClassId) (aF : Nat → Nat → Value) (aV : Nat → Value) (aJ : List own_e) (h0 : Heap) (n0 : Nat) (v : Option Value) (h : Heap) (L : List Loc) : Prop := v = none ∧ Fr n0 L ∧ own_R 15 Z n0 h tt aA aK aF aV (aJ)
set_option maxRecDepth 65536 in
set_option maxHeartbeats 40000000 in
theorem own_rm12b (l : Launch) (Z : State) (a0 : Array Value) (hw : ∀ d ∈ tables_1, d.before a0 Z = true) (ws : List Jvm.Cond) (tt : Addr) (aA : Nat → Addr) (aK : Nat → ClassId) (aF : Nat → Nat → Value) (aV : Nat → Value) (aJ : List own_e) (h0 : Heap) (n0 : Nat) (Z0 : n0 ≤ h0.size) (B0 : own_R 15 Z n0 h0 tt aA aK aF aV (aJ)) (at_10_1 : aF 10 1 = (.int 0)) (at_3_1 : aF 3 1 = (.int (-1 : Int32))) (at_4_1 : aF 4 1 = (.double 0)) (c11_hc19 : ¬ ((cmpValue (FP.dcmp (0 : UInt64) (13695778570484766357 : UInt64)) .g) < (0 : Int32))) :
    MetFree l (⟨"com/example/placewright/placewright/solver/RevisedSimplex", "list", "(I)V"⟩ : MethodName) (head1 (Jvm.Cond.code (⟨"com/example/placewright/placewright/solver/RevisedSimplex", "list", "(I)V"⟩ : MethodName) prog_29_method_32_code 2 none :: ws) ({ frames := 1, cells := 0, slots := 0, locals := 13 } : Room)) (fun a U => a = #[(.ref tt), (.int 1)] ∧ Z.Warmed39 U.vm ∧ U.heap = h0) (fun _ _ _ _ _ => True) (fun _ U o U' => ∃ v L, o = .returned v ∧ own_Q12b Z tt aA aK aF aV aJ h0 n0 v U'.heap L ∧ FrameEnd U o U' L ({ frames := 1, cells := 0, slots := 0, locals := 13 } : Room).cells ({ frames := 1, cells := 0, slots := 0, locals := 13 } : Room).slots) := by
  refine MetFree.of_bodySF (plainFor_of_name own_pn4) hisR ?_
  intro p e s m args below meth c s₁ Bd hml0 hP hK
  obtain ⟨rfl, hZ, hh⟩ := hP
  have hx := Bd.exec
  have hby := Bd.bytes
  have hml : c.maxLocals = 2 := hml0
  have hown : s.vm.findClass "com/example/placewright/placewright/solver/RevisedSimplex" = some m.cls := findClass_of_methodNamed Bd.named
  have hnm := (name_of_methodNamed Bd.named Bd.method).1
  have X0 : Stand p l e ({ frames := 1, cells := 0, slots := 0, locals := 13 } : Room) s m #[(.ref tt), (.int 1)] below meth c s₁ [] 0 0 := Stand.of_body Bd
  have e0 : s₁.heap = h0 := by rw [← hh, Bd.state]; rfl
  have N0 := Fr.nil n0
  have Zr : h0.size ≤ h0.size := Nat.le_refl _
  have pre0 : ∀ t, Steps p.tables e below (s₁.setTop (mkF m 0 #[.val (.ref tt), .val (.int 1)] [])) t → Steps p.tables e below (s₁.setTop (entryFrame m #[(.ref tt), (.int 1)] 2)) t := fun t k => castTop (own_ef12b m tt) k
  obtain ⟨Tn1, Xn1, en1, stn1⟩ := getF X0 hx hZ hown (host := "") (Or.inl (own_W hw 41 rfl)) Via.refl e0 (own_ga B0 10 (by decide) (by decide)) (g := (mkF m 1 #[.val (.ref tt), .val (.int 1)] [(.ref tt)])) rfl rfl (hb hby own_d12_1)
  obtain ⟨cqk2, qk2, qk2'⟩ := (own_R_exa B0).cell
  obtain ⟨_, _, ⟨Tk2, Lk2, kk2, nk2⟩, -, Xk2, ⟨Lck2, hQk2, lk2, yk2, zk2⟩, stk2⟩ := Xn1.privateBack hx (y := (⟨"com/example/placewright/placewright/solver/RevisedSimplex", "prices", "(I)Z"⟩ : MethodName)) hown (mvT hZ (own_W hw 163 rfl)) (mvT hZ (own_W hw 164 rfl)) (own_selP hZ (own_W hw 6 rfl) (own_W hw 165 rfl) (own_W hw 164 rfl) (by decide)) (Cond.privateMethod_at (mvP hZ (own_W hw 165 rfl) (args := #[]))) (mvT hZ (own_W hw 166 rfl)) (by decide) (backOf (W := 0) (own_rm13b l Z a0 hw [] tt aA aK _ _ (aJ) h0 n0 (own_R_sz B0) B0 at_3_1 at_4_1 c11_hc19) hZ (own_W hw 166 rfl) (own_W hw 7 rfl) (by decide) (by decide)) (g := (mkF m 11 #[.val (.ref tt), .val (.int 1)] [(.int 1), (.ref tt)])) rfl (by rw [hml]; rfl) (Steps.refl _) (a := tt) (by rw [en1]; exact qk2) qk2' (argsL := [(.int 1)]) (rest := []) (lenOf own_pd5 rfl) rfl (by show 2 * 0 + _ ≤ _; exact Nat.le_of_eq rfl) (hb hby own_d12_11) (fun _ _ => ⟨rfl, en1, (by decide : 0 + 0 ≤ _), (by decide : 0 + 0 ≤ _)⟩)
  dsimp only [Pt.U, Pt.locs, Pt.cells, Pt.slots] at Xk2 lk2 yk2 zk2 stk2 hQk2
  replace lk2 := lk2.symm; replace yk2 := yk2.symm; replace zk2 := zk2.symm; subst lk2 yk2 zk2
  obtain ⟨rfl, Nk2q, Bk2⟩ := hQk2
  have Nk2 := Fr.app N0 Nk2q
  obtain ⟨fs, hr, hrun, hended, hW, hsame⟩ := Xk2.leave (v := none) (fun _ => rfl)
  refine ⟨_, _, pre0 _ (?_), hrun, hended, _, _, rfl, ?_, ⟨_, rfl⟩, hW, hsame.mono (by decide) (by decide)⟩
  · show Steps p.tables e below (s₁.setTop (mkF m 0 #[.val (.ref tt), .val (.int 1)] [])) _
    refine XS.aloadN X0.here hx rfl (hb hby own_d12_0) rfl rfl ?_
    refine stn1 _ ?_
    refine XS.iloadN Xn1.here hx rfl (hb hby own_d12_4) rfl ?_
    refine own_ldZ Xn1 hx hZ en1 (own_pk B0 10 (by decide)) 1 (by decide) (v := (.int 0)) at_10_1 (g := (mkF m 5 #[.val (.ref tt), .val (.int 1)] [(.int 1), (.ref (aA 10))])) rfl rfl (hb hby own_d12_5) _ ?_
    show Steps p.tables e below (Tn1.setTop (mkF m 6 #[.val (.ref tt), .val (.int 1)] [(.int 0)])) _
    refine XS.ifNo Xn1.here hx rfl (hb hby own_d12_6) rfl (XT.i0_ne_f (by decide : (0 : Int32) = (0 : Int32))) ?_
    refine XS.aloadN Xn1.here hx rfl (hb hby own_d12_9) rfl rfl ?_
    refine XS.iloadN Xn1.here hx rfl (hb hby own_d12_10) rfl ?_
    refine stk2.trans ?_
    show Steps p.tables e below (Tk2.setTop (mkF m 14 #[.val (.ref tt), .val (.int 1)] [(.int 0)])) _
    refine XS.ifYes Xk2.here hx rfl (pc0 := 14) (pc' := 41) rfl (hb hby own_d12_14) rfl (XT.i0_eq_t (by decide : (0 : Int32) = (0 : Int32))) (by decide) (by decide) ?_
    show Steps p.tables e below (Tk2.setTop (mkF m 41 #[.val (.ref tt), .val (.int 1)] [])) _
    exact Xk2.returnOut hx Bd.returns (hb hby own_d12_41) hr
  · show own_Q12b Z tt aA aK aF aV aJ h0 n0 _ Tk2.heap _
    exact ⟨rfl, Nk2, Bk2⟩
theorem own_ef10b (m : MethodId) (tt : Addr) (r1 : Addr) (r2 : Addr) (d3 : UInt64) : entryFrame m #[(.ref tt), (.ref r1), (.ref r2), (.double d3)] 7 = mkF m 0 #[.val (.ref tt), .val (.ref r1), .val (.ref r2), .val (.double d3), .second, .unset, .unset] [] := by first | (simp [entryFrame, mkF, argsToLocals, Value.category]; done) | rfl
def own_Q10b (Z : State) (tt : Addr) (aA : Nat → Addr) (aK : Nat → ClassId) (aF : Nat → Nat → Value) (aV : Nat → Value) (aJ : List own_e) (f_r1 : Nat → Value) (r1 : Addr) (k_r1 : ClassId) (f_r2 : Nat → Value) (r2 : Addr) (k_r2 : ClassId) (d3 : UInt64) (y2 : Addr) (k_y2 : ClassId) (y3 : Addr) (k_y3 : ClassId) (h0 : Heap) (n0 : Nat) (v : Option Value) (h : Heap) (L : List Loc) : Prop := ∃ (bn10 : Addr) (bn6 : Addr), v = some (.int 1) ∧ Fr n0 L ∧ own_R 15 Z n0 h tt aA aK (own_up2 (own_up2 (own_up2 (own_up2 (own_up2 (own_up2 (own_up2 aF 0 1 (.ref bn6)) 1 1 (.ref bn10)) 8 0 (.int 2)) 2 1 (.double d3)) 3 1 (.int (-1 : Int32))) 5 1 (.double 4607182418800017408)) 4 1 (.double 0)) (own_up aV 15 (.int 2)) (⟨bn10, k_r2, .double, 1, none⟩ :: ⟨bn6, k_r1, .int, 1, none⟩ :: ⟨r1, k_r1, .int, 1, some f_r1⟩ :: ⟨r2, k_r2, .double, 1, some f_r2⟩ :: ⟨y2, k_y2, .int, 2, none⟩ :: ⟨y3, k_y3, .double, 2, none⟩ :: aJ)
set_option maxRecDepth 65536 in
set_option maxHeartbeats 40000000 in
theorem own_rm10b (l : Launch) (Z : State) (a0 : Array Value) (hw : ∀ d ∈ tables_1, d.before a0 Z = true) (ws : List Jvm.Cond) (tt : Addr) (aA : Nat → Addr) (aK : Nat → ClassId) (aF : Nat → Nat → Value) (aV : Nat → Value) (aJ : List own_e) (f_r1 : Nat → Value) (r1 : Addr) (k_r1 : ClassId) (f_r2 : Nat → Value) (r2 : Addr) (k_r2 : ClassId) (d3 : UInt64) (y2 : Addr) (k_y2 : ClassId) (y3 : Addr) (k_y3 : ClassId) (h0 : Heap) (n0 : Nat) (Z0 : n0 ≤ h0.size) (B0 : own_R 15 Z n0 h0 tt aA aK aF aV (⟨r1, k_r1, .int, 1, some f_r1⟩ :: ⟨r2, k_r2, .double, 1, some f_r2⟩ :: ⟨y2, k_y2, .int, 2, none⟩ :: ⟨y3, k_y3, .double, 2, none⟩ :: aJ)) (vt_15 : aV 15 = (.int 1)) (et_r1_0 : f_r1 0 = (.int 0)) (et_r2_0 : f_r2 0 = (.double 4607182418800017408)) (at_6_0 : aF 6 0 = (.ref y2)) (at_7_0 : aF 7 0 = (.ref y3)) (at_8_0 : aF 8 0 = (.int 1)) (vt_19 : aV 19 = (.int 1)) (at_10_1 : aF 10 1 = (.int 0)) (c252_c11_hc19 : ¬ ((cmpValue (FP.dcmp (0 : UInt64) (13695778570484766357 : UInt64)) .g) < (0 : Int32))) :
    MetFree l (⟨"com/example/placewright/placewright/solver/RevisedSimplex", "addColumn", "([I[DD)I"⟩ : MethodName) (head1 (Jvm.Cond.code (⟨"com/example/placewright/placewright/solver/RevisedSimplex", "addColumn", "([I[DD)I"⟩ : MethodName) prog_29_method_2_code 7 (some .int) :: ws) ({ frames := 2, cells := 2, slots := 2, locals := 26 } : Room)) (fun a U => a = #[(.ref tt), (.ref r1), (.ref r2), (.double d3)] ∧ Z.Warmed39 U.vm ∧ U.heap = h0) (fun _ _ _ _ _ => True) (fun _ U o U' => ∃ v L, o = .returned v ∧ own_Q10b Z tt aA aK aF aV aJ f_r1 r1 k_r1 f_r2 r2 k_r2 d3 y2 k_y2 y3 k_y3 h0 n0 v U'.heap L ∧ FrameEnd U o U' L ({ frames := 2, cells := 2, slots := 2, locals := 26 } : Room).cells ({ frames := 2, cells := 2, slots := 2, locals := 26 } : Room).slots) := by
  refine MetFree.of_bodySF (plainFor_of_name own_pn4) hisR ?_
  intro p e s m args below meth c s₁ Bd hml0 hP hK
  obtain ⟨rfl, hZ, hh⟩ := hP
  have hx := Bd.exec
  have hby := Bd.bytes
  have hml : c.maxLocals = 7 := hml0
  have hown : s.vm.findClass "com/example/placewright/placewright/solver/RevisedSimplex" = some m.cls := findClass_of_methodNamed Bd.named
  have hnm := (name_of_methodNamed Bd.named Bd.method).1
  have X0 : Stand p l e ({ frames := 2, cells := 2, slots := 2, locals := 26 } : Room) s m #[(.ref tt), (.ref r1), (.ref r2), (.double d3)] below meth c s₁ [] 0 0 := Stand.of_body Bd
  have e0 : s₁.heap = h0 := by rw [← hh, Bd.state]; rfl
  have N0 := Fr.nil n0
  have Zr : h0.size ≤ h0.size := Nat.le_refl _
  have pre0 : ∀ t, Steps p.tables e below (s₁.setTop (mkF m 0 #[.val (.ref tt), .val (.ref r1), .val (.ref r2), .val (.double d3), .second, .unset, .unset] [])) t → Steps p.tables e below (s₁.setTop (entryFrame m #[(.ref tt), (.ref r1), (.ref r2), (.double d3)] 7)) t := fun t k => castTop (own_ef10b m tt r1 r2 d3) k
  obtain ⟨Tn1, Xn1, en1, stn1⟩ := getF X0 hx hZ hown (host := "") (Or.inl (own_W hw 142 rfl)) Via.refl e0 (own_gs (v := (.int 1)) B0 15 (by decide) vt_15) (g := (mkF m 1 (own_L30 tt r1 r2 d3) [(.ref tt)])) rfl rfl (hb hby own_d10_1)
  obtain ⟨Tn2, Xn2, en2, stn2⟩ := getF Xn1 hx hZ hown (host := "") (Or.inl (own_W hw 23 rfl)) Via.refl en1 (own_ga B0 2 (by decide) (by decide)) (g := (mkF m 5 (own_L30 tt r1 r2 d3) [(.ref tt), (.int 1)])) rfl rfl (hb hby own_d10_5)
  obtain ⟨Tn3, Xn3, en3, stn3⟩ := getF Xn2 hx hZ hown (host := "") (Or.inl (own_W hw 142 rfl)) Via.refl en2 (own_gs (v := (.int 1)) B0 15 (by decide) vt_15) (g := (mkF m 132 (own_L30 tt r1 r2 d3) [(.ref tt), (.ref tt)])) rfl rfl (hb hby own_d10_132)
  obtain ⟨Tn4, hn4, Ln4, Xn4, en4, Bn4, Nn4, stn4⟩ := own_pu Xn3 hx hZ hown 15 (own_W hw 142 rfl) en3 B0 N0 (own_sS hw) (by decide) (by decide) (Or.inl (own_W hw 143 rfl)) (own_W hw 6 rfl) (v' := (.int 2)) rfl rfl (g := (mkF m 138 (own_L30 tt r1 r2 d3) [(.int 2), (.ref tt), (.int 1)])) rfl rfl (hb hby own_d10_138)
  obtain ⟨Tn5, Xn5, en5, stn5⟩ := getF Xn4 hx hZ hown (host := "") (Or.inl (own_W hw 16 rfl)) Via.refl en4 (own_ga Bn4 0 (by decide) (by decide)) (g := (mkF m 144 (own_L37 tt r1 r2 d3) [(.ref tt)])) rfl rfl (hb hby own_d10_144)
  obtain ⟨Tn6, hn6, bn6, Xn6, en6, Bn6, stn6⟩ := own_cl Xn5 hx hZ hown (own_W hw 144 rfl) (own_W hw 145 rfl) (own_W hw 149 rfl) (own_W hw 147 rfl) (own_W hw 148 rfl) (own_W hw 150 rfl) en5 Bn4 0 rfl rfl (fun _ => trivial) (g := (mkF m 150 (own_L37 tt r1 r2 d3) [(.ref r1), (.int 1), (.ref (aA 0))])) rfl (by rw [hml]; rfl) rfl (hb hby own_d10_150) (by decide) (W := 2) (cap := 1) (by show 2 * 0 + _ ≤ _; exact Nat.le_of_eq rfl) (by decide) (by decide) (by decide) (by decide)
  obtain ⟨Tn7, Xn7, en7, stn7⟩ := own_ca Xn6 hx hZ hown (own_W hw 14 rfl) en6 (own_en (m := 0) Bn6 rfl) rfl (g := (mkF m 153 (own_L37 tt r1 r2 d3) [(.ref bn6), (.int 1), (.ref (aA 0))])) rfl rfl (hb hby own_d10_153)
  obtain ⟨Tn8, hn8, Ln8, Xn8, en8, Bn8, Nn8, stn8⟩ := own_stR Xn7 hx hZ en7 Bn6 Nn4 0 1 0 (by decide) rfl (Or.inl ⟨rfl, rfl⟩) rfl (by decide) (g := (mkF m 156 (own_L37 tt r1 r2 d3) [(.ref bn6), (.int 1), (.ref (aA 0))])) rfl rfl (hb hby own_d10_156)
  obtain ⟨Tn9, Xn9, en9, stn9⟩ := getF Xn8 hx hZ hown (host := "") (Or.inl (own_W hw 20 rfl)) Via.refl en8 (own_ga Bn8 1 (by decide) (by decide)) (g := (mkF m 158 (own_L37 tt r1 r2 d3) [(.ref tt)])) rfl rfl (hb hby own_d10_158)
  obtain ⟨Tn10, hn10, bn10, Xn10, en10, Bn10, stn10⟩ := own_cl Xn9 hx hZ hown (own_W hw 151 rfl) (own_W hw 152 rfl) (own_W hw 149 rfl) (own_W hw 147 rfl) (own_W hw 153 rfl) (own_W hw 154 rfl) en9 Bn8 2 rfl rfl (fun _ => trivial) (g := (mkF m 164 (own_L37 tt r1 r2 d3) [(.ref r2), (.int 1), (.ref (aA 1))])) rfl (by rw [hml]; rfl) rfl (hb hby own_d10_164) (by decide) (W := 2) (cap := 1) (by show 2 * 0 + _ ≤ _; exact Nat.le_of_eq rfl) (by decide) (by decide) (by decide) (by decide)
  obtain ⟨Tn11, Xn11, en11, stn11⟩ := own_ca Xn10 hx hZ hown (own_W hw 18 rfl) en10 (own_en (m := 0) Bn10 rfl) rfl (g := (mkF m 167 (own_L37 tt r1 r2 d3) [(.ref bn10), (.int 1), (.ref (aA 1))])) rfl rfl (hb hby own_d10_167)
  obtain ⟨Tn12, hn12, Ln12, Xn12, en12, Bn12, Nn12, stn12⟩ := own_stR Xn11 hx hZ en11 Bn10 Nn8 1 1 0 (by decide) rfl (Or.inr ⟨rfl, rfl⟩) rfl (by decide) (g := (mkF m 170 (own_L37 tt r1 r2 d3) [(.ref bn10), (.int 1), (.ref (aA 1))])) rfl rfl (hb hby own_d10_170)
  have B14 : own_R 15 Z n0 hn12 tt aA aK _ _ (⟨y2, k_y2, .int, 2, none⟩ :: ⟨y3, k_y3, .double, 2, none⟩ :: ⟨bn10, k_r2, .double, 1, none⟩ :: ⟨bn6, k_r1, .int, 1, none⟩ :: ⟨r1, k_r1, .int, 1, some f_r1⟩ :: ⟨r2, k_r2, .double, 1, some f_r2⟩ :: aJ) := own_R_pick Bn12 6 [4, 5, 0, 1, 2, 3] trivial (by decide) (by decide)
  obtain ⟨cqk13, qk13, qk13'⟩ := (own_R_exa B14).cell
  obtain ⟨_, _, ⟨Tk13, Lk13, kk13, nk13⟩, -, Xk13, ⟨Lck13, hQk13, lk13, yk13, zk13⟩, stk13⟩ := Xn12.privateBack hx (y := (⟨"com/example/placewright/placewright/solver/RevisedSimplex", "addToRow", "(IID)V"⟩ : MethodName)) hown (mvT hZ (own_W hw 155 rfl)) (mvT hZ (own_W hw 156 rfl)) (own_selP hZ (own_W hw 6 rfl) (own_W hw 157 rfl) (own_W hw 156 rfl) (by decide)) (Cond.privateMethod_at (mvP hZ (own_W hw 157 rfl) (args := #[]))) (mvT hZ (own_W hw 158 rfl)) (by decide) (backOf (W := 0) (own_rm11b l Z a0 hw [] tt aA aK _ _ (⟨bn10, k_r2, .double, 1, none⟩ :: ⟨bn6, k_r1, .int, 1, none⟩ :: ⟨r1, k_r1, .int, 1, some f_r1⟩ :: ⟨r2, k_r2, .double, 1, some f_r2⟩ :: aJ) y2 k_y2 y3 k_y3 hn12 n0 (own_R_sz B14) B14 at_8_0 at_6_0 at_7_0) hZ (own_W hw 158 rfl) (own_W hw 7 rfl) (by decide) (by decide)) (g := (mkF m 192 (own_L38 tt r1 r2 d3) [(.double 4607182418800017408), (.int 1), (.int 0), (.ref tt)])) rfl (by rw [hml]; rfl) (Steps.refl _) (a := tt) (by rw [en12]; exact qk13) qk13' (argsL := [(.int 0), (.int 1), (.double 4607182418800017408)]) (rest := []) (lenOf own_pd4 rfl) rfl (by show 2 * 0 + _ ≤ _; exact Nat.le_of_eq rfl) (hb hby own_d10_192) (fun _ _ => ⟨rfl, en12, (by decide : 2 + 0 ≤ _), (by decide : 2 + 0 ≤ _)⟩)
  dsimp only [Pt.U, Pt.locs, Pt.cells, Pt.slots] at Xk13 lk13 yk13 zk13 stk13 hQk13
  replace lk13 := lk13.symm; replace yk13 := yk13.symm; replace zk13 := zk13.symm; subst lk13 yk13 zk13
  obtain ⟨rfl, Nk13q, Bk13⟩ := hQk13
  have Nk13 := Fr.app Nn12 Nk13q
  obtain ⟨Tn15, Xn15, en15, stn15⟩ := getF Xk13 hx hZ hown (host := "") (Or.inl (own_W hw 23 rfl)) Via.refl rfl (own_ga Bk13 2 (by decide) (by decide)) (g := (mkF m 202 (own_L40 tt r1 r2 d3) [(.ref tt)])) rfl rfl (hb hby own_d10_202)
  obtain ⟨Tn16, hn16, Ln16, Xn16, en16, Bn16, Nn16, stn16⟩ := own_stD Xn15 hx hZ en15 Bk13 Nk13 2 1 (by decide) rfl (by decide) (g := (mkF m 208 (own_L40 tt r1 r2 d3) [(.double d3), (.int 1), (.ref (aA 2))])) rfl rfl (hb hby own_d10_208)
  obtain ⟨Tn17, Xn17, en17, stn17⟩ := getF Xn16 hx hZ hown (host := "") (Or.inl (own_W hw 26 rfl)) Via.refl en16 (own_ga Bn16 3 (by decide) (by decide)) (g := (mkF m 210 (own_L40 tt r1 r2 d3) [(.ref tt)])) rfl rfl (hb hby own_d10_210)
  obtain ⟨Tn18, hn18, Ln18, Xn18, en18, Bn18, Nn18, stn18⟩ := own_stI Xn17 hx hZ en17 Bn16 Nn16 3 1 (by decide) rfl (by decide) (g := (mkF m 216 (own_L40 tt r1 r2 d3) [(.int (-1 : Int32)), (.int 1), (.ref (aA 3))])) rfl rfl (hb hby own_d10_216)
  obtain ⟨Tn19, Xn19, en19, stn19⟩ := getF Xn18 hx hZ hown (host := "") (Or.inl (own_W hw 30 rfl)) Via.refl en18 (own_ga Bn18 5 (by decide) (by decide)) (g := (mkF m 218 (own_L40 tt r1 r2 d3) [(.ref tt)])) rfl rfl (hb hby own_d10_218)
  obtain ⟨Tn20, hn20, Ln20, Xn20, en20, Bn20, Nn20, stn20⟩ := own_stD Xn19 hx hZ en19 Bn18 Nn18 5 1 (by decide) rfl (by decide) (g := (mkF m 224 (own_L40 tt r1 r2 d3) [(.double 4607182418800017408), (.int 1), (.ref (aA 5))])) rfl rfl (hb hby own_d10_224)
  obtain ⟨Tn21, Xn21, en21, stn21⟩ := getF Xn20 hx hZ hown (host := "") (Or.inl (own_W hw 28 rfl)) Via.refl en20 (own_ga Bn20 4 (by decide) (by decide)) (g := (mkF m 226 (own_L40 tt r1 r2 d3) [(.ref tt)])) rfl rfl (hb hby own_d10_226)
  obtain ⟨Tn22, Xn22, en22, stn22⟩ := getF Xn21 hx hZ hown (host := "") (Or.inl (own_W hw 135 rfl)) Via.refl en21 (own_gs (v := (.int 1)) Bn20 19 (by decide) vt_19) (g := (mkF m 232 (own_L40 tt r1 r2 d3) [(.ref tt), (.int 1), (.ref (aA 4))])) rfl rfl (hb hby own_d10_232)
  obtain ⟨Tn23, hn23, Ln23, Xn23, en23, Bn23, Nn23, stn23⟩ := own_stD Xn22 hx hZ en22 Bn20 Nn20 4 1 (by decide) rfl (by decide) (g := (mkF m 248 (own_L40 tt r1 r2 d3) [(.double 0), (.int 1), (.ref (aA 4))])) rfl rfl (hb hby own_d10_248)
  obtain ⟨cqk24, qk24, qk24'⟩ := (own_R_exa Bn23).cell
  obtain ⟨_, _, ⟨Tk24, Lk24, kk24, nk24⟩, -, Xk24, ⟨Lck24, hQk24, lk24, yk24, zk24⟩, stk24⟩ := Xn23.privateBack hx (y := (⟨"com/example/placewright/placewright/solver/RevisedSimplex", "list", "(I)V"⟩ : MethodName)) hown (mvT hZ (own_W hw 159 rfl)) (mvT hZ (own_W hw 160 rfl)) (own_selP hZ (own_W hw 6 rfl) (own_W hw 161 rfl) (own_W hw 160 rfl) (by decide)) (Cond.privateMethod_at (mvP hZ (own_W hw 161 rfl) (args := #[]))) (mvT hZ (own_W hw 162 rfl)) (by decide) (backOf (W := 0) (own_rm12b l Z a0 hw [] tt aA aK _ _ (⟨y2, k_y2, .int, 2, none⟩ :: ⟨y3, k_y3, .double, 2, none⟩ :: ⟨bn10, k_r2, .double, 1, none⟩ :: ⟨bn6, k_r1, .int, 1, none⟩ :: ⟨r1, k_r1, .int, 1, some f_r1⟩ :: ⟨r2, k_r2, .double, 1, some f_r2⟩ :: aJ) hn23 n0 (own_R_sz Bn23) Bn23 at_10_1 rfl rfl c252_c11_hc19) hZ (own_W hw 162 rfl) (own_W hw 7 rfl) (by decide) (by decide)) (g := (mkF m 252 (own_L40 tt r1 r2 d3) [(.int 1), (.ref tt)])) rfl (by rw [hml]; rfl) (Steps.refl _) (a := tt) (by rw [en23]; exact qk24) qk24' (argsL := [(.int 1)]) (rest := []) (lenOf own_pd1 rfl) rfl (by show 2 * 0 + _ ≤ _; exact Nat.le_of_eq rfl) (hb hby own_d10_252) (fun _ _ => ⟨rfl, en23, (by decide : 2 + 0 ≤ _), (by decide : 2 + 0 ≤ _)⟩)
  dsimp only [Pt.U, Pt.locs, Pt.cells, Pt.slots] at Xk24 lk24 yk24 zk24 stk24 hQk24
  replace lk24 := lk24.symm; replace yk24 := yk24.symm; replace zk24 := zk24.symm; subst lk24 yk24 zk24
  obtain ⟨rfl, Nk24q, Bk24⟩ := hQk24
  have Nk24 := Fr.app Nn23 Nk24q
  obtain ⟨fs, hr, hrun, hended, hW, hsame⟩ := Xk24.leave (v := some (.int 1)) (fun h => by rw [Bd.returns] at h; cases h)
  refine ⟨_, _, pre0 _ (?_), hrun, hended, _, _, rfl, ?_, ⟨_, rfl⟩, hW, hsame.mono (by decide) (by decide)⟩
  · show Steps p.tables e below (s₁.setTop (mkF m 0 (own_L30 tt r1 r2 d3) [])) _
    refine XS.aloadN X0.here hx rfl (hb hby own_d10_0) rfl rfl ?_
    refine stn1 _ ?_
    refine XS.aloadN Xn1.here hx rfl (hb hby own_d10_4) rfl rfl ?_
    refine stn2 _ ?_
    show Steps p.tables e below (Tn2.setTop (mkF m 8 (own_L30 tt r1 r2 d3) [(.ref (aA 2)), (.int 1)])) _
    refine own_len Xn2 hx hZ en2 (own_pk B0 2 (by decide)) (g := (mkF m 8 (own_L30 tt r1 r2 d3) [(.ref (aA 2)), (.int 1)])) rfl rfl (hb hby own_d10_8) _ ?_
    refine XS.icmpYes Xn2.here hx rfl (pc0 := 9) (pc' := 130) rfl (hb hby own_d10_9) rfl (XT.ii_ne_t (by decide : ¬ ((1 : Int32) = (16 : Int32)))) (by decide) (by decide) ?_
    refine XS.aloadN Xn2.here hx rfl (hb hby own_d10_130) rfl rfl ?_
    refine XS.dup Xn2.here hx rfl (hb hby own_d10_131) rfl rfl ?_
    refine stn3 _ ?_
    show Steps p.tables e below (Tn3.setTop (mkF m 135 (own_L30 tt r1 r2 d3) [(.int 1), (.ref tt)])) _
    refine XT.dupX1 Xn3.here hx rfl (hb hby own_d10_135) rfl rfl rfl ?_
    refine XS.iconst Xn3.here hx rfl (hb hby own_d10_136) ?_
    refine XS.iadd Xn3.here hx rfl (hb hby own_d10_137) rfl ?_
    show Steps p.tables e below (Tn3.setTop (mkF m 138 (own_L30 tt r1 r2 d3) [(.int 2), (.ref tt), (.int 1)])) _
    refine stn4 _ ?_
    refine XS.istore Xn4.here hx rfl (hb hby own_d10_141) rfl (l' := (own_L37 tt r1 r2 d3)) rfl ?_
    refine XS.aloadN Xn4.here hx rfl (hb hby own_d10_143) rfl rfl ?_
    refine stn5 _ ?_
    show Steps p.tables e below (Tn5.setTop (mkF m 147 (own_L37 tt r1 r2 d3) [(.ref (aA 0))])) _
    refine XS.iload Xn5.here hx rfl (hb hby own_d10_147) rfl ?_
    refine XS.aloadN Xn5.here hx rfl (hb hby own_d10_149) rfl rfl ?_
    refine stn6 _ ?_
    show Steps p.tables e below (Tn6.setTop (mkF m 153 (own_L37 tt r1 r2 d3) [(.ref bn6), (.int 1), (.ref (aA 0))])) _
    refine stn7 _ ?_
    refine stn8 _ ?_
    refine XS.aloadN Xn8.here hx rfl (hb hby own_d10_157) rfl rfl ?_
    refine stn9 _ ?_
    show Steps p.tables e below (Tn9.setTop (mkF m 161 (own_L37 tt r1 r2 d3) [(.ref (aA 1))])) _
    refine XS.iload Xn9.here hx rfl (hb hby own_d10_161) rfl ?_
    refine XS.aloadN Xn9.here hx rfl (hb hby own_d10_163) rfl rfl ?_
    refine stn10 _ ?_
    show Steps p.tables e below (Tn10.setTop (mkF m 167 (own_L37 tt r1 r2 d3) [(.ref bn10), (.int 1), (.ref (aA 1))])) _
    refine stn11 _ ?_
    refine stn12 _ ?_
    refine XS.iconst Xn12.here hx rfl (hb hby own_d10_171) ?_
    refine XS.istore Xn12.here hx rfl (hb hby own_d10_172) rfl (l' := (own_L38 tt r1 r2 d3)) rfl ?_
    refine XS.iload Xn12.here hx rfl (hb hby own_d10_174) rfl ?_
    refine XS.aloadN Xn12.here hx rfl (hb hby own_d10_176) rfl rfl ?_
    refine own_len Xn12 hx hZ en12 (own_en (m := 2) Bn12 rfl) (g := (mkF m 177 (own_L38 tt r1 r2 d3) [(.ref r1), (.int 0)])) rfl rfl (hb hby own_d10_177) _ ?_
    show Steps p.tables e below (Tn12.setTop (mkF m 178 (own_L38 tt r1 r2 d3) [(.int 1), (.int 0)])) _
    refine XS.icmpNo Xn12.here hx rfl (hb hby own_d10_178) rfl (XT.ii_ge_f (by decide : (0 : Int32) < (1 : Int32))) ?_
    refine XS.aloadN Xn12.here hx rfl (hb hby own_d10_181) rfl rfl ?_
    refine XS.aloadN Xn12.here hx rfl (hb hby own_d10_182) rfl rfl ?_
    refine XS.iload Xn12.here hx rfl (hb hby own_d10_183) rfl ?_
    refine own_ldI Xn12 hx hZ en12 (own_en (m := 2) Bn12 rfl) 0 (by decide) (v := (.int 0)) et_r1_0 (g := (mkF m 185 (own_L38 tt r1 r2 d3) [(.int 0), (.ref r1), (.ref tt)])) rfl rfl (hb hby own_d10_185) _ ?_
    show Steps p.tables e below (Tn12.setTop (mkF m 186 (own_L38 tt r1 r2 d3) [(.int 0), (.ref tt)])) _
    refine XS.iload Xn12.here hx rfl (hb hby own_d10_186) rfl ?_
    refine XS.aloadN Xn12.here hx rfl (hb hby own_d10_188) rfl rfl ?_
    refine XS.iload Xn12.here hx rfl (hb hby own_d10_189) rfl ?_
    refine own_ldD Xn12 hx hZ en12 (own_en (m := 3) Bn12 rfl) 0 (by decide) (v := (.double 4607182418800017408)) et_r2_0 (g := (mkF m 191 (own_L38 tt r1 r2 d3) [(.int 0), (.ref r2), (.int 1), (.int 0), (.ref tt)])) rfl rfl (hb hby own_d10_191) _ ?_
    show Steps p.tables e below (Tn12.setTop (mkF m 192 (own_L38 tt r1 r2 d3) [(.double 4607182418800017408), (.int 1), (.int 0), (.ref tt)])) _
    refine stk13.trans ?_
    refine XS.iinc Xk13.here hx rfl (hb hby own_d10_195) rfl (l' := (own_L40 tt r1 r2 d3)) rfl ?_
    refine XS.goto Xk13.here hx rfl (pc0 := 198) (pc' := 174) rfl (hb hby own_d10_198) (by decide) (by decide) ?_
    refine XS.iload Xk13.here hx rfl (hb hby own_d10_174) rfl ?_
    refine XS.aloadN Xk13.here hx rfl (hb hby own_d10_176) rfl rfl ?_
    refine own_len Xk13 hx hZ rfl (own_en (m := 4) Bk13 rfl) (g := (mkF m 177 (own_L40 tt r1 r2 d3) [(.ref r1), (.int 1)])) rfl rfl (hb hby own_d10_177) _ ?_
    show Steps p.tables e below (Tk13.setTop (mkF m 178 (own_L40 tt r1 r2 d3) [(.int 1), (.int 1)])) _
    refine XS.icmpYes Xk13.here hx rfl (pc0 := 178) (pc' := 201) rfl (hb hby own_d10_178) rfl (XT.ii_ge_t (by decide : ¬ ((1 : Int32) < (1 : Int32)))) (by decide) (by decide) ?_
    refine XS.aloadN Xk13.here hx rfl (hb hby own_d10_201) rfl rfl ?_
    refine stn15 _ ?_
    show Steps p.tables e below (Tn15.setTop (mkF m 205 (own_L40 tt r1 r2 d3) [(.ref (aA 2))])) _
    refine XS.iload Xn15.here hx rfl (hb hby own_d10_205) rfl ?_
    refine XS.dloadN Xn15.here hx rfl (hb hby own_d10_207) rfl ?_
    refine stn16 _ ?_
    show Steps p.tables e below (Tn16.setTop (mkF m 209 (own_L40 tt r1 r2 d3) [])) _
    refine XS.aloadN Xn16.here hx rfl (hb hby own_d10_209) rfl rfl ?_
    refine stn17 _ ?_
    refine XS.iload Xn17.here hx rfl (hb hby own_d10_213) rfl ?_
    refine XS.iconst Xn17.here hx rfl (hb hby own_d10_215) ?_
    refine stn18 _ ?_
    show Steps p.tables e below (Tn18.setTop (mkF m 217 (own_L40 tt r1 r2 d3) [])) _
    refine XS.aloadN Xn18.here hx rfl (hb hby own_d10_217) rfl rfl ?_
    refine stn19 _ ?_
    refine XS.iload Xn19.here hx rfl (hb hby own_d10_221) rfl ?_
    refine XS.dconst1 Xn19.here hx rfl (hb hby own_d10_223) (v := (4607182418800017408 : UInt64)) (by decide +kernel) ?_
    show Steps p.tables e below (Tn19.setTop (mkF m 224 (own_L40 tt r1 r2 d3) [(.double 4607182418800017408), (.int 1), (.ref (aA 5))])) _
    refine stn20 _ ?_
    refine XS.aloadN Xn20.here hx rfl (hb hby own_d10_225) rfl rfl ?_
    refine stn21 _ ?_
    show Steps p.tables e below (Tn21.setTop (mkF m 229 (own_L40 tt r1 r2 d3) [(.ref (aA 4))])) _
    refine XS.iload Xn21.here hx rfl (hb hby own_d10_229) rfl ?_
    refine XS.aloadN Xn21.here hx rfl (hb hby own_d10_231) rfl rfl ?_
    refine stn22 _ ?_
    show Steps p.tables e below (Tn22.setTop (mkF m 235 (own_L40 tt r1 r2 d3) [(.int 1), (.int 1), (.ref (aA 4))])) _
    refine XS.ifNo Xn22.here hx rfl (hb hby own_d10_235) rfl (XT.i0_eq_f (by decide : ¬ ((1 : Int32) = (0 : Int32)))) ?_
    refine XS.dconst0 Xn22.here hx rfl (hb hby own_d10_238) (v := (0 : UInt64)) (by decide +kernel) ?_
    refine XS.goto Xn22.here hx rfl (pc0 := 239) (pc' := 248) rfl (hb hby own_d10_239) (by decide) (by decide) ?_
    refine stn23 _ ?_
    show Steps p.tables e below (Tn23.setTop (mkF m 249 (own_L40 tt r1 r2 d3) [])) _
    refine XS.aloadN Xn23.here hx rfl (hb hby own_d10_249) rfl rfl ?_
    refine XS.iload Xn23.here hx rfl (hb hby own_d10_250) rfl ?_
    refine stk24.trans ?_
    show Steps p.tables e below (Tk24.setTop (mkF m 255 (own_L40 tt r1 r2 d3) [])) _
    refine XS.iload Xk24.here hx rfl (hb hby own_d10_255) rfl ?_
    show Steps p.tables e below (Tk24.setTop (mkF m 257 (own_L40 tt r1 r2 d3) [(.int 1)])) _
    exact retI Xk24 hx Bd.returns (hb hby own_d10_257) hr
  · show own_Q10b Z tt aA aK aF aV aJ f_r1 r1 k_r1 f_r2 r2 k_r2 d3 y2 k_y2 y3 k_y3 h0 n0 _ Tk24.heap _
    exact ⟨bn10, bn6, rfl, Nk24, (own_R_pick Bk24 6 [2, 3, 4, 5, 0, 1] trivial (by decide) (by decide))⟩
def own_L41 (x0 : Int32) (x1 : Int32) (x2 : Int32) (x3 : Int32) (x4 : Int32) (x5 : Int32) (x6 : Int32) (x7 : Int32) (x8 : Int32) (x9 : Int32) (x10 : Int32) (x11 : Int32) (x12 : Int32) (x13 : Int32) (x14 : Int32) (x15 : Addr) (x16 : Int64) : Array Slot := #[.val (.int x0), .val (.int x1), .val (.int x2), .val (.int x3), .val (.int x4), .val (.int x5), .val (.int x6), .val (.int x7), .val (.int x8), .val (.int x9), .val (.int x10), .val (.int x11), .val (.int x12), .val (.int 1), .val (.int x13), .val (.int x14), .val (.int 1), .val (.int 0), .val (.ref x15), .val (.long 0), .second, .val (.int 0), .val (.long x16), .second, .unset, .unset, .unset, .unset]
def own_L42 (x0 : Int32) (x1 : Int32) (x2 : Int32) (x3 : Int32) (x4 : Int32) (x5 : Int32) (x6 : Int32) (x7 : Int32) (x8 : Int32) (x9 : Int32) (x10 : Int32) (x11 : Int32) (x12 : Int32) (x13 : Int32) (x14 : Int32) (x15 : Addr) (x16 : Int64) (x17 : Int64) : Array Slot := #[.val (.int x0), .val (.int x1), .val (.int x2), .val (.int x3), .val (.int x4), .val (.int x5), .val (.int x6), .val (.int x7), .val (.int x8), .val (.int x9), .val (.int x10), .val (.int x11), .val (.int x12), .val (.int 1), .val (.int x13), .val (.int x14), .val (.int 1), .val (.int 0), .val (.ref x15), .val (.long 0), .second, .val (.int 0), .val (.long x16), .second, .val (.long x17), .second, .unset, .unset]
def own_L43 (x0 : Int32) (x1 : Int32) (x2 : Int32) (x3 : Int32) (x4 : Int32) (x5 : Int32) (x6 : Int32) (x7 : Int32) (x8 : Int32) (x9 : Int32) (x10 : Int32) (x11 : Int32) (x12 : Int32) (x13 : Int32) (x14 : Int32) (x15 : Addr) (x16 : Int64) (x17 : Int64) (x18 : Int64) : Array Slot := #[.val (.int x0), .val (.int x1), .val (.int x2), .val (.int x3), .val (.int x4), .val (.int x5), .val (.int x6), .val (.int x7), .val (.int x8), .val (.int x9), .val (.int x10), .val (.int x11), .val (.int x12), .val (.int 1), .val (.int x13), .val (.int x14), .val (.int 1), .val (.int 0), .val (.ref x15), .val (.long x16), .second, .val (.int 0), .val (.long x17), .second, .val (.long x18), .second, .unset, .unset]
def own_L44 (x0 : Addr) (x1 : UInt64) : Array Slot := #[.val (.ref x0), .val (.double x1), .second, .val (.int 0)]
def own_L45 (x0 : Addr) (x1 : UInt64) : Array Slot := #[.val (.ref x0), .val (.double x1), .second, .val (.int 1)]
theorem own_d7_12 : decode prog_29_method_11_code 12 = .ok (.dload_n 1, 1) := by decide +kernel
theorem own_d7_13 : decode prog_29_method_11_code 13 = .ok (.aload_n 0, 1) := by decide +kernel
theorem own_d7_14 : decode prog_29_method_11_code 14 = .ok (.getfield 21, 3) := by decide +kernel
theorem own_d7_17 : decode prog_29_method_11_code 17 = .ok (.aload_n 0, 1) := by decide +kernel
theorem own_d7_18 : decode prog_29_method_11_code 18 = .ok (.getfield 56, 3) := by decide +kernel
theorem own_d7_21 : decode prog_29_method_11_code 21 = .ok (.iload_n 3, 1) := by decide +kernel
theorem own_d7_22 : decode prog_29_method_11_code 22 = .ok (.iaload, 1) := by decide +kernel
theorem own_d7_23 : decode prog_29_method_11_code 23 = .ok (.daload, 1) := by decide +kernel
theorem own_d7_24 : decode prog_29_method_11_code 24 = .ok (.aload_n 0, 1) := by decide +kernel
theorem own_d7_25 : decode prog_29_method_11_code 25 = .ok (.getfield 59, 3) := by decide +kernel
theorem own_d7_28 : decode prog_29_method_11_code 28 = .ok (.iload_n 3, 1) := by decide +kernel
theorem own_d7_29 : decode prog_29_method_11_code 29 = .ok (.daload, 1) := by decide +kernel
theorem own_d7_30 : decode prog_29_method_11_code 30 = .ok (.dmul, 1) := by decide +kernel
theorem own_d7_31 : decode prog_29_method_11_code 31 = .ok (.dadd, 1) := by decide +kernel
theorem own_d7_32 : decode prog_29_method_11_code 32 = .ok (.dstore_n 1, 1) := by decide +kernel
theorem own_d7_33 : decode prog_29_method_11_code 33 = .ok (.iinc 3 1, 3) := by decide +kernel
theorem own_d7_36 : decode prog_29_method_11_code 36 = .ok (.goto (-32), 3) := by decide +kernel
def own_v7b_0 (x_2_0 : UInt64) (x_13_0 : UInt64) : UInt64 := (FP.dadd (0 : UInt64) (FP.dmul x_2_0 x_13_0))
theorem own_ef7b (m : MethodId) (tt : Addr) : entryFrame m #[(.ref tt)] 4 = mkF m 0 #[.val (.ref tt), .unset, .unset, .unset] [] := by first | (simp [entryFrame, mkF, argsToLocals, Value.category]; done) | rfl
def own_Q7b (Z : State) (tt : Addr) (aA : Nat → Addr) (aK : Nat → ClassId) (aF : Nat → Nat → Value) (aV : Nat → Value) (aJ : List own_e) (x_2_0 : UInt64) (x_13_0 : UInt64) (h0 : Heap) (n0 : Nat) (v : Option Value) (h : Heap) (L : List Loc) : Prop := v = some (.double (own_v7b_0 x_2_0 x_13_0)) ∧ Fr n0 L ∧ own_R 15 Z n0 h tt aA aK aF aV (aJ)
set_option maxRecDepth 65536 in
set_option maxHeartbeats 40000000 in
theorem own_rm7b (l : Launch) (Z : State) (a0 : Array Value) (hw : ∀ d ∈ tables_1, d.before a0 Z = true) (ws : List Jvm.Cond) (tt : Addr) (aA : Nat → Addr) (aK : Nat → ClassId) (aF : Nat → Nat → Value) (aV : Nat → Value) (aJ : List own_e) (x_2_0 : UInt64) (x_13_0 : UInt64) (h0 : Heap) (n0 : Nat) (Z0 : n0 ≤ h0.size) (B0 : own_R 15 Z n0 h0 tt aA aK aF aV (aJ)) (vt_17 : aV 17 = (.int 1)) (at_12_0 : aF 12 0 = (.int 0)) (at_2_0 : aF 2 0 = (.double x_2_0)) (at_13_0 : aF 13 0 = (.double x_13_0)) (nn30 : NoNaN64 (FP.dmul x_2_0 x_13_0)) (nn31 : NoNaN64 (FP.dadd (0 : UInt64) (FP.dmul x_2_0 x_13_0))) :
    MetFree l (⟨"com/example/placewright/placewright/solver/RevisedSimplex", "objective", "()D"⟩ : MethodName) (head1 (Jvm.Cond.code (⟨"com/example/placewright/placewright/solver/RevisedSimplex", "objective", "()D"⟩ : MethodName) prog_29_method_11_code 4 (some .double) :: ws) ({ frames := 0, cells := 0, slots := 0, locals := 0 } : Room)) (fun a U => a = #[(.ref tt)] ∧ Z.Warmed39 U.vm ∧ U.heap = h0) (fun _ _ _ _ _ => True) (fun _ U o U' => ∃ v L, o = .returned v ∧ own_Q7b Z tt aA aK aF aV aJ x_2_0 x_13_0 h0 n0 v U'.heap L ∧ FrameEnd U o U' L ({ frames := 0, cells := 0, slots := 0, locals := 0 } : Room).cells ({ frames := 0, cells := 0, slots := 0, locals := 0 } : Room).slots) := by
  refine MetFree.of_bodySF (plainFor_of_name own_pn4) hisR ?_
  intro p e s m args below meth c s₁ Bd hml0 hP hK
  obtain ⟨rfl, hZ, hh⟩ := hP
  have hx := Bd.exec
  have hby := Bd.bytes
  have hml : c.maxLocals = 4 := hml0
  have hown : s.vm.findClass "com/example/placewright/placewright/solver/RevisedSimplex" = some m.cls := findClass_of_methodNamed Bd.named
  have hnm := (name_of_methodNamed Bd.named Bd.method).1
  have X0 : Stand p l e ({ frames := 0, cells := 0, slots := 0, locals := 0 } : Room) s m #[(.ref tt)] below meth c s₁ [] 0 0 := Stand.of_body Bd
  have e0 : s₁.heap = h0 := by rw [← hh, Bd.state]; rfl
  have N0 := Fr.nil n0
  have Zr : h0.size ≤ h0.size := Nat.le_refl _
  have pre0 : ∀ t, Steps p.tables e below (s₁.setTop (mkF m 0 #[.val (.ref tt), .unset, .unset, .unset] [])) t → Steps p.tables e below (s₁.setTop (entryFrame m #[(.ref tt)] 4)) t := fun t k => castTop (own_ef7b m tt) k
  obtain ⟨Tn1, Xn1, en1, stn1⟩ := getF X0 hx hZ hown (host := "") (Or.inl (own_W hw 121 rfl)) Via.refl e0 (own_gs (v := (.int 1)) B0 17 (by decide) vt_17) (g := (mkF m 6 (own_L16 tt) [(.ref tt), (.int 0)])) rfl rfl (hb hby own_d7_6)
  obtain ⟨Tn2, Xn2, en2, stn2⟩ := getF Xn1 hx hZ hown (host := "") (Or.inl (own_W hw 23 rfl)) Via.refl en1 (own_ga B0 2 (by decide) (by decide)) (g := (mkF m 14 (own_L16 tt) [(.ref tt), (.double 0)])) rfl rfl (hb hby own_d7_14)
  obtain ⟨Tn3, Xn3, en3, stn3⟩ := getF Xn2 hx hZ hown (host := "") (Or.inl (own_W hw 47 rfl)) Via.refl en2 (own_ga B0 12 (by decide) (by decide)) (g := (mkF m 18 (own_L16 tt) [(.ref tt), (.ref (aA 2)), (.double 0)])) rfl rfl (hb hby own_d7_18)
  obtain ⟨Tn4, Xn4, en4, stn4⟩ := getF Xn3 hx hZ hown (host := "") (Or.inl (own_W hw 49 rfl)) Via.refl en3 (own_ga B0 13 (by decide) (by decide)) (g := (mkF m 25 (own_L16 tt) [(.ref tt), (.double x_2_0), (.double 0)])) rfl rfl (hb hby own_d7_25)
  obtain ⟨Tn5, Xn5, en5, stn5⟩ := getF Xn4 hx hZ hown (host := "") (Or.inl (own_W hw 121 rfl)) Via.refl en4 (own_gs (v := (.int 1)) B0 17 (by decide) vt_17) (g := (mkF m 6 (own_L45 tt (own_v7b_0 x_2_0 x_13_0)) [(.ref tt), (.int 1)])) rfl rfl (hb hby own_d7_6)
  obtain ⟨fs, hr, hrun, hended, hW, hsame⟩ := Xn5.leave (v := some (.double (own_v7b_0 x_2_0 x_13_0))) (fun h => by rw [Bd.returns] at h; cases h)
  refine ⟨_, _, pre0 _ (?_), hrun, hended, _, _, rfl, ?_, ⟨_, rfl⟩, hW, hsame.mono (by decide) (by decide)⟩
  · show Steps p.tables e below (s₁.setTop (mkF m 0 #[.val (.ref tt), .unset, .unset, .unset] [])) _
    refine XS.dconst0 X0.here hx rfl (hb hby own_d7_0) (v := (0 : UInt64)) (by decide +kernel) ?_
    refine XS.dstoreN X0.here hx rfl (hb hby own_d7_1) rfl (l' := #[.val (.ref tt), .val (.double 0), .second, .unset]) rfl ?_
    refine XS.iconst X0.here hx rfl (hb hby own_d7_2) ?_
    refine XS.istoreN X0.here hx rfl (hb hby own_d7_3) rfl (l' := (own_L16 tt)) rfl ?_
    refine XS.iloadN X0.here hx rfl (hb hby own_d7_4) rfl ?_
    refine XS.aloadN X0.here hx rfl (hb hby own_d7_5) rfl rfl ?_
    refine stn1 _ ?_
    show Steps p.tables e below (Tn1.setTop (mkF m 9 (own_L16 tt) [(.int 1), (.int 0)])) _
    refine XS.icmpNo Xn1.here hx rfl (hb hby own_d7_9) rfl (XT.ii_ge_f (by decide : (0 : Int32) < (1 : Int32))) ?_
    refine XS.dloadN Xn1.here hx rfl (hb hby own_d7_12) rfl ?_
    refine XS.aloadN Xn1.here hx rfl (hb hby own_d7_13) rfl rfl ?_
    refine stn2 _ ?_
    show Steps p.tables e below (Tn2.setTop (mkF m 17 (own_L16 tt) [(.ref (aA 2)), (.double 0)])) _
    refine XS.aloadN Xn2.here hx rfl (hb hby own_d7_17) rfl rfl ?_
    refine stn3 _ ?_
    refine XS.iloadN Xn3.here hx rfl (hb hby own_d7_21) rfl ?_
    refine own_ldI Xn3 hx hZ en3 (own_pk B0 12 (by decide)) 0 (by decide) (v := (.int 0)) at_12_0 (g := (mkF m 22 (own_L16 tt) [(.int 0), (.ref (aA 12)), (.ref (aA 2)), (.double 0)])) rfl rfl (hb hby own_d7_22) _ ?_
    show Steps p.tables e below (Tn3.setTop (mkF m 23 (own_L16 tt) [(.int 0), (.ref (aA 2)), (.double 0)])) _
    refine own_ldD Xn3 hx hZ en3 (own_pk B0 2 (by decide)) 0 (by decide) (v := (.double x_2_0)) at_2_0 (g := (mkF m 23 (own_L16 tt) [(.int 0), (.ref (aA 2)), (.double 0)])) rfl rfl (hb hby own_d7_23) _ ?_
    refine XS.aloadN Xn3.here hx rfl (hb hby own_d7_24) rfl rfl ?_
    refine stn4 _ ?_
    show Steps p.tables e below (Tn4.setTop (mkF m 28 (own_L16 tt) [(.ref (aA 13)), (.double x_2_0), (.double 0)])) _
    refine XS.iloadN Xn4.here hx rfl (hb hby own_d7_28) rfl ?_
    refine own_ldD Xn4 hx hZ en4 (own_pk B0 13 (by decide)) 0 (by decide) (v := (.double x_13_0)) at_13_0 (g := (mkF m 29 (own_L16 tt) [(.int 0), (.ref (aA 13)), (.double x_2_0), (.double 0)])) rfl rfl (hb hby own_d7_29) _ ?_
    refine XS.dmulS Xn4.here hx rfl (hb hby own_d7_30) rfl nn30 rfl ?_
    refine XS.daddS Xn4.here hx rfl (hb hby own_d7_31) rfl nn31 rfl ?_
    refine XS.dstoreN Xn4.here hx rfl (hb hby own_d7_32) rfl (l' := (own_L44 tt (own_v7b_0 x_2_0 x_13_0))) rfl ?_
    refine XS.iinc Xn4.here hx rfl (hb hby own_d7_33) rfl (l' := (own_L45 tt (own_v7b_0 x_2_0 x_13_0))) rfl ?_
    refine XS.goto Xn4.here hx rfl (pc0 := 36) (pc' := 4) rfl (hb hby own_d7_36) (by decide) (by decide) ?_
    refine XS.iloadN Xn4.here hx rfl (hb hby own_d7_4) rfl ?_
    refine XS.aloadN Xn4.here hx rfl (hb hby own_d7_5) rfl rfl ?_
    refine stn5 _ ?_
    show Steps p.tables e below (Tn5.setTop (mkF m 9 (own_L45 tt (own_v7b_0 x_2_0 x_13_0)) [(.int 1), (.int 1)])) _
    refine XS.icmpYes Xn5.here hx rfl (pc0 := 9) (pc' := 39) rfl (hb hby own_d7_9) rfl (XT.ii_ge_t (by decide : ¬ ((1 : Int32) < (1 : Int32)))) (by decide) (by decide) ?_
    refine XS.dloadN Xn5.here hx rfl (hb hby own_d7_39) rfl ?_
    show Steps p.tables e below (Tn5.setTop (mkF m 40 (own_L45 tt (own_v7b_0 x_2_0 x_13_0)) [(.double (own_v7b_0 x_2_0 x_13_0))])) _
    exact own_retD Xn5 hx Bd.returns (hb hby own_d7_40) hr
  · show own_Q7b Z tt aA aK aF aV aJ x_2_0 x_13_0 h0 n0 _ Tn5.heap _
    rw [en5]
    exact ⟨rfl, N0, B0⟩
def own_L46 (x0 : Int32) (x1 : Int32) (x2 : Int32) (x3 : Int32) (x4 : Int32) (x5 : Int32) (x6 : Int32) (x7 : Int32) (x8 : Int32) (x9 : Int32) (x10 : Int32) (x11 : Int32) (x12 : Int32) : Array Slot := #[.val (.int x0), .val (.int x1), .val (.int x2), .val (.int x3), .val (.int x4), .val (.int x5), .val (.int x6), .val (.int x7), .val (.int x8), .val (.int x9), .val (.int x10), .val (.int x11), .val (.int x12), .val (.int 2), .unset, .unset, .unset, .unset, .unset, .unset, .unset, .unset, .unset, .unset, .unset, .unset, .unset, .unset]
def own_L47 (x0 : Int32) (x1 : Int32) (x2 : Int32) (x3 : Int32) (x4 : Int32) (x5 : Int32) (x6 : Int32) (x7 : Int32) (x8 : Int32) (x9 : Int32) (x10 : Int32) (x11 : Int32) (x12 : Int32) (x13 : Int32) : Array Slot := #[.val (.int x0), .val (.int x1), .val (.int x2), .val (.int x3), .val (.int x4), .val (.int x5), .val (.int x6), .val (.int x7), .val (.int x8), .val (.int x9), .val (.int x10), .val (.int x11), .val (.int x12), .val (.int 2), .val (.int x13), .unset, .unset, .unset, .unset, .unset, .unset, .unset, .unset, .unset, .unset, .unset, .unset, .unset]
def own_L48 (x0 : Int32) (x1 : Int32) (x2 : Int32) (x3 : Int32) (x4 : Int32) (x5 : Int32) (x6 : Int32) (x7 : Int32) (x8 : Int32) (x9 : Int32) (x10 : Int32) (x11 : Int32) (x12 : Int32) (x13 : Int32) (x14 : Int32) : Array Slot := #[.val (.int x0), .val (.int x1), .val (.int x2), .val (.int x3), .val (.int x4), .val (.int x5), .val (.int x6), .val (.int x7), .val (.int x8), .val (.int x9), .val (.int x10), .val (.int x11), .val (.int x12), .val (.int 2), .val (.int x13), .val (.int x14), .unset, .unset, .unset, .unset, .unset, .unset, .unset, .unset, .unset, .unset, .unset, .unset]
theorem own_ef1_2_2 (m : MethodId) : entryFrame m #[(.int 2), (.int 2)] 2 = mkF m 0 #[.val (.int 2), .val (.int 2)] [] := by first | (simp [entryFrame, mkF, argsToLocals, Value.category]; done) | rfl
def own_Q1_2_2 (Z : State) (h0 : Heap) (n0 : Nat) (v : Option Value) (h : Heap) (L : List Loc) : Prop := v = some (.int 2) ∧ Fr n0 L ∧ h = h0
set_option maxRecDepth 65536 in
set_option maxHeartbeats 40000000 in
theorem own_rm1_2_2 (l : Launch) (Z : State) (a0 : Array Value) (hw : ∀ d ∈ tables_1, d.before a0 Z = true) (ws : List Jvm.Cond) (h0 : Heap) (n0 : Nat) (Z0 : n0 ≤ h0.size) :
    MetFree l (⟨"java/lang/Math", "min", "(II)I"⟩ : MethodName) (head1 (Jvm.Cond.code (⟨"java/lang/Math", "min", "(II)I"⟩ : MethodName) jdk_29_method_69_code 2 (some .int) :: ws) ({ frames := 0, cells := 0, slots := 0, locals := 0 } : Room)) (fun a U => a = #[(.int 2), (.int 2)] ∧ Z.Warmed39 U.vm ∧ U.heap = h0) (fun _ _ _ _ _ => True) (fun _ U o U' => ∃ v L, o = .returned v ∧ own_Q1_2_2 Z  h0 n0 v U'.heap L ∧ FrameEnd U o U' L ({ frames := 0, cells := 0, slots := 0, locals := 0 } : Room).cells ({ frames := 0, cells := 0, slots := 0, locals := 0 } : Room).slots) := by
  refine MetFree.of_bodySF (Jvm.Free.JP.mathPlain rfl (by decide +kernel)) hisR ?_
  intro p e s m args below meth c s₁ Bd hml0 hP hK
  obtain ⟨rfl, hZ, hh⟩ := hP
  have hx := Bd.exec
  have hby := Bd.bytes
  have hml : c.maxLocals = 2 := hml0
  have hown : s.vm.findClass "java/lang/Math" = some m.cls := findClass_of_methodNamed Bd.named
  have hnm := (name_of_methodNamed Bd.named Bd.method).1
  have X0 : Stand p l e ({ frames := 0, cells := 0, slots := 0, locals := 0 } : Room) s m #[(.int 2), (.int 2)] below meth c s₁ [] 0 0 := Stand.of_body Bd
  have e0 : s₁.heap = h0 := by rw [← hh, Bd.state]; rfl
  have N0 := Fr.nil n0
  have Zr : h0.size ≤ h0.size := Nat.le_refl _
  have pre0 : ∀ t, Steps p.tables e below (s₁.setTop (mkF m 0 #[.val (.int 2), .val (.int 2)] [])) t → Steps p.tables e below (s₁.setTop (entryFrame m #[(.int 2), (.int 2)] 2)) t := fun t k => castTop (own_ef1_2_2 m) k
  obtain ⟨fs, hr, hrun, hended, hW, hsame⟩ := X0.leave (v := some (.int 2)) (fun h => by rw [Bd.returns] at h; cases h)
  refine ⟨_, _, pre0 _ (?_), hrun, hended, _, _, rfl, ?_, ⟨_, rfl⟩, hW, hsame.mono (by decide) (by decide)⟩
  · show Steps p.tables e below (s₁.setTop (mkF m 0 #[.val (.int 2), .val (.int 2)] [])) _
    refine XS.iloadN X0.here hx rfl (hb hby own_d1_0) rfl ?_
    refine XS.iloadN X0.here hx rfl (hb hby own_d1_1) rfl ?_
    refine XS.icmpNo X0.here hx rfl (hb hby own_d1_2) rfl (XT.ii_gt_f (by decide : ¬ ((2 : Int32) < (2 : Int32)))) ?_
    refine XS.iloadN X0.here hx rfl (hb hby own_d1_5) rfl ?_
    refine XS.goto X0.here hx rfl (pc0 := 6) (pc' := 10) rfl (hb hby own_d1_6) (by decide) (by decide) ?_
    show Steps p.tables e below (s₁.setTop (mkF m 10 #[.val (.int 2), .val (.int 2)] [(.int 2)])) _
    exact retI X0 hx Bd.returns (hb hby own_d1_10) hr
  · show own_Q1_2_2 Z  h0 n0 _ s₁.heap _
    rw [e0]
    exact ⟨rfl, N0, rfl⟩
def own_L49 (x0 : Int32) (x1 : Int32) (x2 : Int32) (x3 : Int32) (x4 : Int32) (x5 : Int32) (x6 : Int32) (x7 : Int32) (x8 : Int32) (x9 : Int32) (x10 : Int32) (x11 : Int32) (x12 : Int32) (x13 : Int32) (x14 : Int32) : Array Slot := #[.val (.int x0), .val (.int x1), .val (.int x2), .val (.int x3), .val (.int x4), .val (.int x5), .val (.int x6), .val (.int x7), .val (.int x8), .val (.int x9), .val (.int x10), .val (.int x11), .val (.int x12), .val (.int 2), .val (.int x13), .val (.int x14), .val (.int 2), .unset, .unset, .unset, .unset, .unset, .unset, .unset, .unset, .unset, .unset, .unset]
def own_L50 (x0 : Int32) (x1 : Int32) (x2 : Int32) (x3 : Int32) (x4 : Int32) (x5 : Int32) (x6 : Int32) (x7 : Int32) (x8 : Int32) (x9 : Int32) (x10 : Int32) (x11 : Int32) (x12 : Int32) (x13 : Int32) (x14 : Int32) : Array Slot := #[.val (.int x0), .val (.int x1), .val (.int x2), .val (.int x3), .val (.int x4), .val (.int x5), .val (.int x6), .val (.int x7), .val (.int x8), .val (.int x9), .val (.int x10), .val (.int x11), .val (.int x12), .val (.int 2), .val (.int x13), .val (.int x14), .val (.int 2), .val (.int 0), .unset, .unset, .unset, .unset, .unset, .unset, .unset, .unset, .unset, .unset]
def own_L51 (x0 : Int32) (x1 : Int32) (x2 : Int32) (x3 : Int32) (x4 : Int32) (x5 : Int32) (x6 : Int32) (x7 : Int32) (x8 : Int32) (x9 : Int32) (x10 : Int32) (x11 : Int32) (x12 : Int32) (x13 : Int32) (x14 : Int32) (x15 : Addr) : Array Slot := #[.val (.int x0), .val (.int x1), .val (.int x2), .val (.int x3), .val (.int x4), .val (.int x5), .val (.int x6), .val (.int x7), .val (.int x8), .val (.int x9), .val (.int x10), .val (.int x11), .val (.int x12), .val (.int 2), .val (.int x13), .val (.int x14), .val (.int 2), .val (.int 0), .val (.ref x15), .unset, .unset, .unset, .unset, .unset, .unset, .unset, .unset, .unset]
def own_L52 (x0 : Int32) (x1 : Int32) (x2 : Int32) (x3 : Int32) (x4 : Int32) (x5 : Int32) (x6 : Int32) (x7 : Int32) (x8 : Int32) (x9 : Int32) (x10 : Int32) (x11 : Int32) (x12 : Int32) (x13 : Int32) (x14 : Int32) (x15 : Addr) : Array Slot := #[.val (.int x0), .val (.int x1), .val (.int x2), .val (.int x3), .val (.int x4), .val (.int x5), .val (.int x6), .val (.int x7), .val (.int x8), .val (.int x9), .val (.int x10), .val (.int x11), .val (.int x12), .val (.int 2), .val (.int x13), .val (.int x14), .val (.int 2), .val (.int 0), .val (.ref x15), .val (.long 0), .second, .unset, .unset, .unset, .unset, .unset, .unset, .unset]
def own_L53 (x0 : Int32) (x1 : Int32) (x2 : Int32) (x3 : Int32) (x4 : Int32) (x5 : Int32) (x6 : Int32) (x7 : Int32) (x8 : Int32) (x9 : Int32) (x10 : Int32) (x11 : Int32) (x12 : Int32) (x13 : Int32) (x14 : Int32) (x15 : Addr) : Array Slot := #[.val (.int x0), .val (.int x1), .val (.int x2), .val (.int x3), .val (.int x4), .val (.int x5), .val (.int x6), .val (.int x7), .val (.int x8), .val (.int x9), .val (.int x10), .val (.int x11), .val (.int x12), .val (.int 2), .val (.int x13), .val (.int x14), .val (.int 2), .val (.int 0), .val (.ref x15), .val (.long 0), .second, .val (.int 0), .unset, .unset, .unset, .unset, .unset, .unset]
def own_L54 (x0 : Int32) (x1 : Int32) (x2 : Int32) (x3 : Int32) (x4 : Int32) (x5 : Int32) (x6 : Int32) (x7 : Int32) (x8 : Int32) (x9 : Int32) (x10 : Int32) (x11 : Int32) (x12 : Int32) (x13 : Int32) (x14 : Int32) (x15 : Addr) (x16 : Int64) : Array Slot := #[.val (.int x0), .val (.int x1), .val (.int x2), .val (.int x3), .val (.int x4), .val (.int x5), .val (.int x6), .val (.int x7), .val (.int x8), .val (.int x9), .val (.int x10), .val (.int x11), .val (.int x12), .val (.int 2), .val (.int x13), .val (.int x14), .val (.int 2), .val (.int 0), .val (.ref x15), .val (.long 0), .second, .val (.int 0), .val (.long x16), .second, .unset, .unset, .unset, .unset]
def own_L55 (x0 : Int32) (x1 : Int32) (x2 : Int32) (x3 : Int32) (x4 : Int32) (x5 : Int32) (x6 : Int32) (x7 : Int32) (x8 : Int32) (x9 : Int32) (x10 : Int32) (x11 : Int32) (x12 : Int32) (x13 : Int32) (x14 : Int32) (x15 : Addr) (x16 : Int64) (x17 : Int64) : Array Slot := #[.val (.int x0), .val (.int x1), .val (.int x2), .val (.int x3), .val (.int x4), .val (.int x5), .val (.int x6), .val (.int x7), .val (.int x8), .val (.int x9), .val (.int x10), .val (.int x11), .val (.int x12), .val (.int 2), .val (.int x13), .val (.int x14), .val (.int 2), .val (.int 0), .val (.ref x15), .val (.long 0), .second, .val (.int 0), .val (.long x16), .second, .val (.long x17), .second, .unset, .unset]
def own_L56 (x0 : Int32) (x1 : Int32) (x2 : Int32) (x3 : Int32) (x4 : Int32) (x5 : Int32) (x6 : Int32) (x7 : Int32) (x8 : Int32) (x9 : Int32) (x10 : Int32) (x11 : Int32) (x12 : Int32) (x13 : Int32) (x14 : Int32) (x15 : Addr) (x16 : Int64) (x17 : Int64) (x18 : Int64) : Array Slot := #[.val (.int x0), .val (.int x1), .val (.int x2), .val (.int x3), .val (.int x4), .val (.int x5), .val (.int x6), .val (.int x7), .val (.int x8), .val (.int x9), .val (.int x10), .val (.int x11), .val (.int x12), .val (.int 2), .val (.int x13), .val (.int x14), .val (.int 2), .val (.int 0), .val (.ref x15), .val (.long x16), .second, .val (.int 0), .val (.long x17), .second, .val (.long x18), .second, .unset, .unset]
def own_L57 (x0 : Addr) (x1 : UInt64) (x2 : Addr) (x3 : Addr) (x4 : UInt64) (x5 : UInt64) : Array Slot := #[.val (.ref x0), .val (.double x1), .second, .val (.ref x2), .val (.ref x3), .val (.double x4), .second, .val (.double x5), .second, .val (.int 1), .unset, .unset, .unset, .unset, .unset]
theorem own_d9_5 : decode jdk_29_method_65_code 5 = .ok (.iload_n 0, 1) := by decide +kernel
theorem own_d9_6 : decode jdk_29_method_65_code 6 = .ok (.goto 4, 3) := by decide +kernel
theorem own_ef9_2_2 (m : MethodId) : entryFrame m #[(.int 2), (.int 2)] 2 = mkF m 0 #[.val (.int 2), .val (.int 2)] [] := by first | (simp [entryFrame, mkF, argsToLocals, Value.category]; done) | rfl
def own_Q9_2_2 (Z : State) (h0 : Heap) (n0 : Nat) (v : Option Value) (h : Heap) (L : List Loc) : Prop := v = some (.int 2) ∧ Fr n0 L ∧ h = h0
set_option maxRecDepth 65536 in
set_option maxHeartbeats 40000000 in
theorem own_rm9_2_2 (l : Launch) (Z : State) (a0 : Array Value) (hw : ∀ d ∈ tables_1, d.before a0 Z = true) (ws : List Jvm.Cond) (h0 : Heap) (n0 : Nat) (Z0 : n0 ≤ h0.size) :
    MetFree l (⟨"java/lang/Math", "max", "(II)I"⟩ : MethodName) (head1 (Jvm.Cond.code (⟨"java/lang/Math", "max", "(II)I"⟩ : MethodName) jdk_29_method_65_code 2 (some .int) :: ws) ({ frames := 0, cells := 0, slots := 0, locals := 0 } : Room)) (fun a U => a = #[(.int 2), (.int 2)] ∧ Z.Warmed39 U.vm ∧ U.heap = h0) (fun _ _ _ _ _ => True) (fun _ U o U' => ∃ v L, o = .returned v ∧ own_Q9_2_2 Z  h0 n0 v U'.heap L ∧ FrameEnd U o U' L ({ frames := 0, cells := 0, slots := 0, locals := 0 } : Room).cells ({ frames := 0, cells := 0, slots := 0, locals := 0 } : Room).slots) := by
  refine MetFree.of_bodySF (Jvm.Free.JP.mathPlain rfl (by decide +kernel)) hisR ?_
  intro p e s m args below meth c s₁ Bd hml0 hP hK
  obtain ⟨rfl, hZ, hh⟩ := hP
  have hx := Bd.exec
  have hby := Bd.bytes
  have hml : c.maxLocals = 2 := hml0
  have hown : s.vm.findClass "java/lang/Math" = some m.cls := findClass_of_methodNamed Bd.named
  have hnm := (name_of_methodNamed Bd.named Bd.method).1
  have X0 : Stand p l e ({ frames := 0, cells := 0, slots := 0, locals := 0 } : Room) s m #[(.int 2), (.int 2)] below meth c s₁ [] 0 0 := Stand.of_body Bd
  have e0 : s₁.heap = h0 := by rw [← hh, Bd.state]; rfl
  have N0 := Fr.nil n0
  have Zr : h0.size ≤ h0.size := Nat.le_refl _
  have pre0 : ∀ t, Steps p.tables e below (s₁.setTop (mkF m 0 #[.val (.int 2), .val (.int 2)] [])) t → Steps p.tables e below (s₁.setTop (entryFrame m #[(.int 2), (.int 2)] 2)) t := fun t k => castTop (own_ef9_2_2 m) k
  obtain ⟨fs, hr, hrun, hended, hW, hsame⟩ := X0.leave (v := some (.int 2)) (fun h => by rw [Bd.returns] at h; cases h)
  refine ⟨_, _, pre0 _ (?_), hrun, hended, _, _, rfl, ?_, ⟨_, rfl⟩, hW, hsame.mono (by decide) (by decide)⟩
  · show Steps p.tables e below (s₁.setTop (mkF m 0 #[.val (.int 2), .val (.int 2)] [])) _
    refine XS.iloadN X0.here hx rfl (hb hby own_d9_0) rfl ?_
    refine XS.iloadN X0.here hx rfl (hb hby own_d9_1) rfl ?_
    refine XS.icmpNo X0.here hx rfl (hb hby own_d9_2) rfl (XT.ii_lt_f (by decide : ¬ ((2 : Int32) < (2 : Int32)))) ?_
    refine XS.iloadN X0.here hx rfl (hb hby own_d9_5) rfl ?_
    refine XS.goto X0.here hx rfl (pc0 := 6) (pc' := 10) rfl (hb hby own_d9_6) (by decide) (by decide) ?_
    show Steps p.tables e below (s₁.setTop (mkF m 10 #[.val (.int 2), .val (.int 2)] [(.int 2)])) _
    exact retI X0 hx Bd.returns (hb hby own_d9_10) hr
  · show own_Q9_2_2 Z  h0 n0 _ s₁.heap _
    rw [e0]
    exact ⟨rfl, N0, rfl⟩
def own_L58 (x0 : Addr) (x1 : UInt64) (x2 : Addr) (x3 : Addr) (x4 : UInt64) (x5 : UInt64) : Array Slot := #[.val (.ref x0), .val (.double x1), .second, .val (.ref x2), .val (.ref x3), .val (.double x4), .second, .val (.double x5), .second, .val (.int 1), .val (.int 0), .unset, .unset, .unset, .unset]
def own_L59 (x0 : Addr) (x1 : UInt64) (x2 : Addr) (x3 : Addr) (x4 : UInt64) (x5 : UInt64) : Array Slot := #[.val (.ref x0), .val (.double x1), .second, .val (.ref x2), .val (.ref x3), .val (.double x4), .second, .val (.double x5), .second, .val (.int 1), .val (.int 0), .val (.int 0), .unset, .unset, .unset]
theorem own_pn5 : plainName "java/util/Arrays" = true := by first | (simp [plainName, overriddenIn]; done) | decide +kernel
theorem own_d16_0 : decode jdk_65_method_123_code 0 = .ok (.iload_n 1, 1) := by decide +kernel
theorem own_d16_1 : decode jdk_65_method_123_code 1 = .ok (.aload_n 0, 1) := by decide +kernel
theorem own_d16_2 : decode jdk_65_method_123_code 2 = .ok (.arraylength, 1) := by decide +kernel
theorem own_d16_3 : decode jdk_65_method_123_code 3 = .ok (.if_icmp .ne 11, 3) := by decide +kernel
theorem own_d16_14 : decode jdk_65_method_123_code 14 = .ok (.iload_n 1, 1) := by decide +kernel
theorem own_d16_15 : decode jdk_65_method_123_code 15 = .ok (.newarray .int, 2) := by decide +kernel
theorem own_d16_17 : decode jdk_65_method_123_code 17 = .ok (.astore_n 2, 1) := by decide +kernel
theorem own_d16_18 : decode jdk_65_method_123_code 18 = .ok (.aload_n 0, 1) := by decide +kernel
theorem own_d16_19 : decode jdk_65_method_123_code 19 = .ok (.iconst 0, 1) := by decide +kernel
theorem own_d16_20 : decode jdk_65_method_123_code 20 = .ok (.aload_n 2, 1) := by decide +kernel
theorem own_d16_21 : decode jdk_65_method_123_code 21 = .ok (.iconst 0, 1) := by decide +kernel
theorem own_d16_22 : decode jdk_65_method_123_code 22 = .ok (.aload_n 0, 1) := by decide +kernel
theorem own_d16_23 : decode jdk_65_method_123_code 23 = .ok (.arraylength, 1) := by decide +kernel
theorem own_d16_24 : decode jdk_65_method_123_code 24 = .ok (.iload_n 1, 1) := by decide +kernel
theorem own_d16_25 : decode jdk_65_method_123_code 25 = .ok (.invokestatic 304, 3) := by decide +kernel
theorem own_d16_28 : decode jdk_65_method_123_code 28 = .ok (.invokestatic 150, 3) := by decide +kernel
theorem own_d16_31 : decode jdk_65_method_123_code 31 = .ok (.aload_n 2, 1) := by decide +kernel
theorem own_d16_32 : decode jdk_65_method_123_code 32 = .ok (.areturn, 1) := by decide +kernel
theorem own_ef16a (m : MethodId) (r0 : Addr) : entryFrame m #[(.ref r0), (.int 2)] 3 = mkF m 0 #[.val (.ref r0), .val (.int 2), .unset] [] := by first | (simp [entryFrame, mkF, argsToLocals, Value.category]; done) | rfl
def own_Q16a (Z : State) (tt : Addr) (aA : Nat → Addr) (aK : Nat → ClassId) (aF : Nat → Nat → Value) (aV : Nat → Value) (aJ : List own_e) (r0 : Addr) (k_r0 : ClassId) (h0 : Heap) (n0 : Nat) (v : Option Value) (h : Heap) (L : List Loc) : Prop := ∃ (bn1 : Addr) (kn1 : ClassId), v = some (.ref bn1) ∧ Fr n0 L ∧ own_R 15 Z n0 h tt aA aK aF aV (⟨bn1, kn1, .int, 2, none⟩ :: ⟨r0, k_r0, .int, 1, none⟩ :: aJ)
set_option maxRecDepth 65536 in
set_option maxHeartbeats 40000000 in
theorem own_rm16a (l : Launch) (Z : State) (a0 : Array Value) (hw : ∀ d ∈ tables_1, d.before a0 Z = true) (ws : List Jvm.Cond) (tt : Addr) (aA : Nat → Addr) (aK : Nat → ClassId) (aF : Nat → Nat → Value) (aV : Nat → Value) (aJ : List own_e) (r0 : Addr) (k_r0 : ClassId) (h0 : Heap) (n0 : Nat) (Z0 : n0 ≤ h0.size) (B0 : own_R 15 Z n0 h0 tt aA aK aF aV (⟨r0, k_r0, .int, 1, none⟩ :: aJ)) :
    MetFree l (⟨"java/util/Arrays", "copyOf", "([II)[I"⟩ : MethodName) (head1 (Jvm.Cond.code (⟨"java/util/Arrays", "copyOf", "([II)[I"⟩ : MethodName) jdk_65_method_123_code 3 (some (.array .int)) :: ws) ({ frames := 1, cells := 1, slots := 2, locals := 18 } : Room)) (fun a U => a = #[(.ref r0), (.int 2)] ∧ Z.Warmed39 U.vm ∧ U.heap = h0) (fun _ _ _ _ _ => True) (fun _ U o U' => ∃ v L, o = .returned v ∧ own_Q16a Z tt aA aK aF aV aJ r0 k_r0 h0 n0 v U'.heap L ∧ FrameEnd U o U' L ({ frames := 1, cells := 1, slots := 2, locals := 18 } : Room).cells ({ frames := 1, cells := 1, slots := 2, locals := 18 } : Room).slots) := by
  refine MetFree.of_bodySF (plainFor_of_name own_pn5) hisR ?_
  intro p e s m args below meth c s₁ Bd hml0 hP hK
  obtain ⟨rfl, hZ, hh⟩ := hP
  have hx := Bd.exec
  have hby := Bd.bytes
  have hml : c.maxLocals = 3 := hml0
  have hown : s.vm.findClass "java/util/Arrays" = some m.cls := findClass_of_methodNamed Bd.named
  have hnm := (name_of_methodNamed Bd.named Bd.method).1
  have X0 : Stand p l e ({ frames := 1, cells := 1, slots := 2, locals := 18 } : Room) s m #[(.ref r0), (.int 2)] below meth c s₁ [] 0 0 := Stand.of_body Bd
  have e0 : s₁.heap = h0 := by rw [← hh, Bd.state]; rfl
  have N0 := Fr.nil n0
  have Zr : h0.size ≤ h0.size := Nat.le_refl _
  have pre0 : ∀ t, Steps p.tables e below (s₁.setTop (mkF m 0 #[.val (.ref r0), .val (.int 2), .unset] [])) t → Steps p.tables e below (s₁.setTop (entryFrame m #[(.ref r0), (.int 2)] 3)) t := fun t k => castTop (own_ef16a m r0) k
  obtain ⟨Tn1, hn1, bn1, kn1, Xn1, en1, Bn1, stn1⟩ := own_na X0 hx hZ (own_W hw 25 rfl) e0 B0 .int rfl (fun _ => trivial) (by decide) (g := (mkF m 15 #[.val (.ref r0), .val (.int 2), .unset] [(.int 2)])) rfl (hb hby own_d16_15) rfl (by decide) (cap := 2) (by decide) (by decide) (by decide) (by decide)
  obtain ⟨_, _, ⟨Tk2, Lk2, kk2, nk2⟩, -, Xk2, ⟨Lck2, hQk2, lk2, yk2, zk2⟩, stk2⟩ := Jvm.LawKit.callS Xn1 hx (y := (⟨"java/lang/Math", "min", "(II)I"⟩ : MethodName)) hown (mvT hZ (own_W hw 180 rfl)) (mvT hZ (own_W hw 2 rfl)) (mvT hZ (own_W hw 3 rfl)) (mvT hZ (own_W hw 4 rfl)) (by decide) (backOf (W := 4) (own_rm1_1_2 l Z a0 hw []  hn1 n0 (own_R_sz Bn1)) hZ (own_W hw 4 rfl) (own_W hw 3 rfl) (by decide) (by decide)) (g := (mkF m 25 #[.val (.ref r0), .val (.int 2), .val (.ref bn1)] [(.int 2), (.int 1), (.int 0), (.ref bn1), (.int 0), (.ref r0)])) rfl (by rw [hml]; rfl) (argsL := [(.int 1), (.int 2)]) (rest := [(.int 0), (.ref bn1), (.int 0), (.ref r0)]) (lenOf own_pd2 rfl) rfl (by show 2 * 0 + _ ≤ _; exact Nat.le_of_eq rfl) (hb hby own_d16_25) (fun _ _ => ⟨rfl, en1, (by decide : 1 + 0 ≤ _), (by decide : 2 + 0 ≤ _)⟩)
  dsimp only [Pt.U, Pt.locs, Pt.cells, Pt.slots] at Xk2 lk2 yk2 zk2 stk2 hQk2
  replace lk2 := lk2.symm; replace yk2 := yk2.symm; replace zk2 := zk2.symm; subst lk2 yk2 zk2
  obtain ⟨rfl, Nk2q, ek2⟩ := hQk2
  have Nk2 := Fr.app N0 Nk2q
  obtain ⟨Tn3, hn3, Ln3, Xn3, en3, Bn3, Nn3, stn3⟩ := own_ac Xk2 hx hZ hown (own_W hw 181 rfl) (own_W hw 184 rfl) (own_W hw 182 rfl) (own_W hw 183 rfl) ek2 Bn1 Nk2 0 rfl rfl (by decide) (by decide) (by decide) (g := (mkF m 28 #[.val (.ref r0), .val (.int 2), .val (.ref bn1)] [(.int 1), (.int 0), (.ref bn1), (.int 0), (.ref r0)])) rfl (by rw [hml]; rfl) rfl (hb hby own_d16_28) (by decide) (W := 0) (by show 2 * 0 + _ ≤ _; exact Nat.le_of_eq rfl) (by decide)
  obtain ⟨fs, hr, hrun, hended, hW, hsame⟩ := Xn3.leave (v := some (.ref bn1)) (fun h => by rw [Bd.returns] at h; cases h)
  refine ⟨_, _, pre0 _ (?_), hrun, hended, _, _, rfl, ?_, ⟨_, rfl⟩, hW, hsame.mono (by decide) (by decide)⟩
  · show Steps p.tables e below (s₁.setTop (mkF m 0 #[.val (.ref r0), .val (.int 2), .unset] [])) _
    refine XS.iloadN X0.here hx rfl (hb hby own_d16_0) rfl ?_
    refine XS.aloadN X0.here hx rfl (hb hby own_d16_1) rfl rfl ?_
    refine own_len X0 hx hZ e0 (own_en (m := 0) B0 rfl) (g := (mkF m 2 #[.val (.ref r0), .val (.int 2), .unset] [(.ref r0), (.int 2)])) rfl rfl (hb hby own_d16_2) _ ?_
    show Steps p.tables e below (s₁.setTop (mkF m 3 #[.val (.ref r0), .val (.int 2), .unset] [(.int 1), (.int 2)])) _
    refine XS.icmpYes X0.here hx rfl (pc0 := 3) (pc' := 14) rfl (hb hby own_d16_3) rfl (XT.ii_ne_t (by decide : ¬ ((2 : Int32) = (1 : Int32)))) (by decide) (by decide) ?_
    refine XS.iloadN X0.here hx rfl (hb hby own_d16_14) rfl ?_
    refine stn1 _ ?_
    show Steps p.tables e below (Tn1.setTop (mkF m 17 #[.val (.ref r0), .val (.int 2), .unset] [(.ref bn1)])) _
    refine XS.astoreN Xn1.here hx rfl (hb hby own_d16_17) rfl rfl (l' := #[.val (.ref r0), .val (.int 2), .val (.ref bn1)]) rfl ?_
    refine XS.aloadN Xn1.here hx rfl (hb hby own_d16_18) rfl rfl ?_
    refine XS.iconst Xn1.here hx rfl (hb hby own_d16_19) ?_
    refine XS.aloadN Xn1.here hx rfl (hb hby own_d16_20) rfl rfl ?_
    refine XS.iconst Xn1.here hx rfl (hb hby own_d16_21) ?_
    refine XS.aloadN Xn1.here hx rfl (hb hby own_d16_22) rfl rfl ?_
    refine own_len Xn1 hx hZ en1 (own_en (m := 1) Bn1 rfl) (g := (mkF m 23 #[.val (.ref r0), .val (.int 2), .val (.ref bn1)] [(.ref r0), (.int 0), (.ref bn1), (.int 0), (.ref r0)])) rfl rfl (hb hby own_d16_23) _ ?_
    show Steps p.tables e below (Tn1.setTop (mkF m 24 #[.val (.ref r0), .val (.int 2), .val (.ref bn1)] [(.int 1), (.int 0), (.ref bn1), (.int 0), (.ref r0)])) _
    refine XS.iloadN Xn1.here hx rfl (hb hby own_d16_24) rfl ?_
    refine stk2 _ ?_
    refine stn3 _ ?_
    show Steps p.tables e below (Tn3.setTop (mkF m 31 #[.val (.ref r0), .val (.int 2), .val (.ref bn1)] [])) _
    refine XS.aloadN Xn3.here hx rfl (hb hby own_d16_31) rfl rfl ?_
    show Steps p.tables e below (Tn3.setTop (mkF m 32 #[.val (.ref r0), .val (.int 2), .val (.ref bn1)] [(.ref bn1)])) _
    jvm_step Xn3.here [Xn3.here.top, hx, (hb hby own_d16_32), Xn3.method', Bd.returns, Value.isRef, FieldType.isReference]
    first | (intro acts; rw [hr _ acts rfl rfl rfl]) | rw [hr _ _ rfl rfl rfl]
    exact Steps.refl _
  · show own_Q16a Z tt aA aK aF aV aJ r0 k_r0 h0 n0 _ Tn3.heap _
    rw [en3]
    exact ⟨bn1, kn1, rfl, Nn3, Bn3⟩
theorem own_pd9 : parseMethodDescriptor "([II)[I" = some ⟨[(.array .int), .int], some (.array .int)⟩ := by decide +kernel
theorem own_d17_0 : decode jdk_65_method_127_code 0 = .ok (.iload_n 1, 1) := by decide +kernel
theorem own_d17_1 : decode jdk_65_method_127_code 1 = .ok (.aload_n 0, 1) := by decide +kernel
theorem own_d17_2 : decode jdk_65_method_127_code 2 = .ok (.arraylength, 1) := by decide +kernel
theorem own_d17_3 : decode jdk_65_method_127_code 3 = .ok (.if_icmp .ne 11, 3) := by decide +kernel
theorem own_d17_14 : decode jdk_65_method_127_code 14 = .ok (.iload_n 1, 1) := by decide +kernel
theorem own_d17_15 : decode jdk_65_method_127_code 15 = .ok (.newarray .double, 2) := by decide +kernel
theorem own_d17_17 : decode jdk_65_method_127_code 17 = .ok (.astore_n 2, 1) := by decide +kernel
theorem own_d17_18 : decode jdk_65_method_127_code 18 = .ok (.aload_n 0, 1) := by decide +kernel
theorem own_d17_19 : decode jdk_65_method_127_code 19 = .ok (.iconst 0, 1) := by decide +kernel
theorem own_d17_20 : decode jdk_65_method_127_code 20 = .ok (.aload_n 2, 1) := by decide +kernel
theorem own_d17_21 : decode jdk_65_method_127_code 21 = .ok (.iconst 0, 1) := by decide +kernel
theorem own_d17_22 : decode jdk_65_method_127_code 22 = .ok (.aload_n 0, 1) := by decide +kernel
theorem own_d17_23 : decode jdk_65_method_127_code 23 = .ok (.arraylength, 1) := by decide +kernel
theorem own_d17_24 : decode jdk_65_method_127_code 24 = .ok (.iload_n 1, 1) := by decide +kernel
theorem own_d17_25 : decode jdk_65_method_127_code 25 = .ok (.invokestatic 304, 3) := by decide +kernel
theorem own_d17_28 : decode jdk_65_method_127_code 28 = .ok (.invokestatic 150, 3) := by decide +kernel
theorem own_d17_31 : decode jdk_65_method_127_code 31 = .ok (.aload_n 2, 1) := by decide +kernel
theorem own_d17_32 : decode jdk_65_method_127_code 32 = .ok (.areturn, 1) := by decide +kernel
theorem own_ef17a (m : MethodId) (r0 : Addr) : entryFrame m #[(.ref r0), (.int 2)] 3 = mkF m 0 #[.val (.ref r0), .val (.int 2), .unset] [] := by first | (simp [entryFrame, mkF, argsToLocals, Value.category]; done) | rfl
def own_Q17a (Z : State) (tt : Addr) (aA : Nat → Addr) (aK : Nat → ClassId) (aF : Nat → Nat → Value) (aV : Nat → Value) (aJ : List own_e) (r0 : Addr) (k_r0 : ClassId) (h0 : Heap) (n0 : Nat) (v : Option Value) (h : Heap) (L : List Loc) : Prop := ∃ (bn1 : Addr) (kn1 : ClassId), v = some (.ref bn1) ∧ Fr n0 L ∧ own_R 15 Z n0 h tt aA aK aF aV (⟨bn1, kn1, .double, 2, none⟩ :: ⟨r0, k_r0, .double, 1, none⟩ :: aJ)
set_option maxRecDepth 65536 in
set_option maxHeartbeats 40000000 in
theorem own_rm17a (l : Launch) (Z : State) (a0 : Array Value) (hw : ∀ d ∈ tables_1, d.before a0 Z = true) (ws : List Jvm.Cond) (tt : Addr) (aA : Nat → Addr) (aK : Nat → ClassId) (aF : Nat → Nat → Value) (aV : Nat → Value) (aJ : List own_e) (r0 : Addr) (k_r0 : ClassId) (h0 : Heap) (n0 : Nat) (Z0 : n0 ≤ h0.size) (B0 : own_R 15 Z n0 h0 tt aA aK aF aV (⟨r0, k_r0, .double, 1, none⟩ :: aJ)) :
    MetFree l (⟨"java/util/Arrays", "copyOf", "([DI)[D"⟩ : MethodName) (head1 (Jvm.Cond.code (⟨"java/util/Arrays", "copyOf", "([DI)[D"⟩ : MethodName) jdk_65_method_127_code 3 (some (.array .double)) :: ws) ({ frames := 1, cells := 1, slots := 2, locals := 18 } : Room)) (fun a U => a = #[(.ref r0), (.int 2)] ∧ Z.Warmed39 U.vm ∧ U.heap = h0) (fun _ _ _ _ _ => True) (fun _ U o U' => ∃ v L, o = .returned v ∧ own_Q17a Z tt aA aK aF aV aJ r0 k_r0 h0 n0 v U'.heap L ∧ FrameEnd U o U' L ({ frames := 1, cells := 1, slots := 2, locals := 18 } : Room).cells ({ frames := 1, cells := 1, slots := 2, locals := 18 } : Room).slots) := by
  refine MetFree.of_bodySF (plainFor_of_name own_pn5) hisR ?_
  intro p e s m args below meth c s₁ Bd hml0 hP hK
  obtain ⟨rfl, hZ, hh⟩ := hP
  have hx := Bd.exec
  have hby := Bd.bytes
  have hml : c.maxLocals = 3 := hml0
  have hown : s.vm.findClass "java/util/Arrays" = some m.cls := findClass_of_methodNamed Bd.named
  have hnm := (name_of_methodNamed Bd.named Bd.method).1
  have X0 : Stand p l e ({ frames := 1, cells := 1, slots := 2, locals := 18 } : Room) s m #[(.ref r0), (.int 2)] below meth c s₁ [] 0 0 := Stand.of_body Bd
  have e0 : s₁.heap = h0 := by rw [← hh, Bd.state]; rfl
  have N0 := Fr.nil n0
  have Zr : h0.size ≤ h0.size := Nat.le_refl _
  have pre0 : ∀ t, Steps p.tables e below (s₁.setTop (mkF m 0 #[.val (.ref r0), .val (.int 2), .unset] [])) t → Steps p.tables e below (s₁.setTop (entryFrame m #[(.ref r0), (.int 2)] 3)) t := fun t k => castTop (own_ef17a m r0) k
  obtain ⟨Tn1, hn1, bn1, kn1, Xn1, en1, Bn1, stn1⟩ := own_na X0 hx hZ (own_W hw 22 rfl) e0 B0 .double rfl (fun _ => trivial) (by decide) (g := (mkF m 15 #[.val (.ref r0), .val (.int 2), .unset] [(.int 2)])) rfl (hb hby own_d17_15) rfl (by decide) (cap := 2) (by decide) (by decide) (by decide) (by decide)
  obtain ⟨_, _, ⟨Tk2, Lk2, kk2, nk2⟩, -, Xk2, ⟨Lck2, hQk2, lk2, yk2, zk2⟩, stk2⟩ := Jvm.LawKit.callS Xn1 hx (y := (⟨"java/lang/Math", "min", "(II)I"⟩ : MethodName)) hown (mvT hZ (own_W hw 180 rfl)) (mvT hZ (own_W hw 2 rfl)) (mvT hZ (own_W hw 3 rfl)) (mvT hZ (own_W hw 4 rfl)) (by decide) (backOf (W := 4) (own_rm1_1_2 l Z a0 hw []  hn1 n0 (own_R_sz Bn1)) hZ (own_W hw 4 rfl) (own_W hw 3 rfl) (by decide) (by decide)) (g := (mkF m 25 #[.val (.ref r0), .val (.int 2), .val (.ref bn1)] [(.int 2), (.int 1), (.int 0), (.ref bn1), (.int 0), (.ref r0)])) rfl (by rw [hml]; rfl) (argsL := [(.int 1), (.int 2)]) (rest := [(.int 0), (.ref bn1), (.int 0), (.ref r0)]) (lenOf own_pd2 rfl) rfl (by show 2 * 0 + _ ≤ _; exact Nat.le_of_eq rfl) (hb hby own_d17_25) (fun _ _ => ⟨rfl, en1, (by decide : 1 + 0 ≤ _), (by decide : 2 + 0 ≤ _)⟩)
  dsimp only [Pt.U, Pt.locs, Pt.cells, Pt.slots] at Xk2 lk2 yk2 zk2 stk2 hQk2
  replace lk2 := lk2.symm; replace yk2 := yk2.symm; replace zk2 := zk2.symm; subst lk2 yk2 zk2
  obtain ⟨rfl, Nk2q, ek2⟩ := hQk2
  have Nk2 := Fr.app N0 Nk2q
  obtain ⟨Tn3, hn3, Ln3, Xn3, en3, Bn3, Nn3, stn3⟩ := own_ac Xk2 hx hZ hown (own_W hw 181 rfl) (own_W hw 184 rfl) (own_W hw 182 rfl) (own_W hw 183 rfl) ek2 Bn1 Nk2 0 rfl rfl (by decide) (by decide) (by decide) (g := (mkF m 28 #[.val (.ref r0), .val (.int 2), .val (.ref bn1)] [(.int 1), (.int 0), (.ref bn1), (.int 0), (.ref r0)])) rfl (by rw [hml]; rfl) rfl (hb hby own_d17_28) (by decide) (W := 0) (by show 2 * 0 + _ ≤ _; exact Nat.le_of_eq rfl) (by decide)
  obtain ⟨fs, hr, hrun, hended, hW, hsame⟩ := Xn3.leave (v := some (.ref bn1)) (fun h => by rw [Bd.returns] at h; cases h)
  refine ⟨_, _, pre0 _ (?_), hrun, hended, _, _, rfl, ?_, ⟨_, rfl⟩, hW, hsame.mono (by decide) (by decide)⟩
  · show Steps p.tables e below (s₁.setTop (mkF m 0 #[.val (.ref r0), .val (.int 2), .unset] [])) _
    refine XS.iloadN X0.here hx rfl (hb hby own_d17_0) rfl ?_
    refine XS.aloadN X0.here hx rfl (hb hby own_d17_1) rfl rfl ?_
    refine own_len X0 hx hZ e0 (own_en (m := 0) B0 rfl) (g := (mkF m 2 #[.val (.ref r0), .val (.int 2), .unset] [(.ref r0), (.int 2)])) rfl rfl (hb hby own_d17_2) _ ?_
    show Steps p.tables e below (s₁.setTop (mkF m 3 #[.val (.ref r0), .val (.int 2), .unset] [(.int 1), (.int 2)])) _
    refine XS.icmpYes X0.here hx rfl (pc0 := 3) (pc' := 14) rfl (hb hby own_d17_3) rfl (XT.ii_ne_t (by decide : ¬ ((2 : Int32) = (1 : Int32)))) (by decide) (by decide) ?_
    refine XS.iloadN X0.here hx rfl (hb hby own_d17_14) rfl ?_
    refine stn1 _ ?_
    show Steps p.tables e below (Tn1.setTop (mkF m 17 #[.val (.ref r0), .val (.int 2), .unset] [(.ref bn1)])) _
    refine XS.astoreN Xn1.here hx rfl (hb hby own_d17_17) rfl rfl (l' := #[.val (.ref r0), .val (.int 2), .val (.ref bn1)]) rfl ?_
    refine XS.aloadN Xn1.here hx rfl (hb hby own_d17_18) rfl rfl ?_
    refine XS.iconst Xn1.here hx rfl (hb hby own_d17_19) ?_
    refine XS.aloadN Xn1.here hx rfl (hb hby own_d17_20) rfl rfl ?_
    refine XS.iconst Xn1.here hx rfl (hb hby own_d17_21) ?_
    refine XS.aloadN Xn1.here hx rfl (hb hby own_d17_22) rfl rfl ?_
    refine own_len Xn1 hx hZ en1 (own_en (m := 1) Bn1 rfl) (g := (mkF m 23 #[.val (.ref r0), .val (.int 2), .val (.ref bn1)] [(.ref r0), (.int 0), (.ref bn1), (.int 0), (.ref r0)])) rfl rfl (hb hby own_d17_23) _ ?_
    show Steps p.tables e below (Tn1.setTop (mkF m 24 #[.val (.ref r0), .val (.int 2), .val (.ref bn1)] [(.int 1), (.int 0), (.ref bn1), (.int 0), (.ref r0)])) _
    refine XS.iloadN Xn1.here hx rfl (hb hby own_d17_24) rfl ?_
    refine stk2 _ ?_
    refine stn3 _ ?_
    show Steps p.tables e below (Tn3.setTop (mkF m 31 #[.val (.ref r0), .val (.int 2), .val (.ref bn1)] [])) _
    refine XS.aloadN Xn3.here hx rfl (hb hby own_d17_31) rfl rfl ?_
    show Steps p.tables e below (Tn3.setTop (mkF m 32 #[.val (.ref r0), .val (.int 2), .val (.ref bn1)] [(.ref bn1)])) _
    jvm_step Xn3.here [Xn3.here.top, hx, (hb hby own_d17_32), Xn3.method', Bd.returns, Value.isRef, FieldType.isReference]
    first | (intro acts; rw [hr _ acts rfl rfl rfl]) | rw [hr _ _ rfl rfl rfl]
    exact Steps.refl _
  · show own_Q17a Z tt aA aK aF aV aJ r0 k_r0 h0 n0 _ Tn3.heap _
    rw [en3]
    exact ⟨bn1, kn1, rfl, Nn3, Bn3⟩
theorem own_pd10 : parseMethodDescriptor "([DI)[D" = some ⟨[(.array .double), .int], some (.array .double)⟩ := by decide +kernel
def own_L60 (x0 : Addr) (x1 : UInt64) : Array Slot := #[.val (.ref x0), .val (.int 1), .val (.int 0), .val (.double x1), .second]
theorem own_ef11c (m : MethodId) (tt : Addr) (d3 : UInt64) : entryFrame m #[(.ref tt), (.int 1), (.int 0), (.double d3)] 5 = mkF m 0 #[.val (.ref tt), .val (.int 1), .val (.int 0), .val (.double d3), .second] [] := by first | (simp [entryFrame, mkF, argsToLocals, Value.category]; done) | rfl
def own_Q11c (Z : State) (tt : Addr) (aA : Nat → Addr) (aK : Nat → ClassId) (aF : Nat → Nat → Value) (aV : Nat → Value) (aJ : List own_e) (d3 : UInt64) (y0 : Addr) (k_y0 : ClassId) (y1 : Addr) (k_y1 : ClassId) (h0 : Heap) (n0 : Nat) (v : Option Value) (h : Heap) (L : List Loc) : Prop := v = none ∧ Fr n0 L ∧ own_R 15 Z n0 h tt aA aK (own_up2 aF 8 1 (.int 1)) aV (⟨y0, k_y0, .int, 2, none⟩ :: ⟨y1, k_y1, .double, 2, none⟩ :: aJ)
set_option maxRecDepth 65536 in
set_option maxHeartbeats 40000000 in
theorem own_rm11c (l : Launch) (Z : State) (a0 : Array Value) (hw : ∀ d ∈ tables_1, d.before a0 Z = true) (ws : List Jvm.Cond) (tt : Addr) (aA : Nat → Addr) (aK : Nat → ClassId) (aF : Nat → Nat → Value) (aV : Nat → Value) (aJ : List own_e) (d3 : UInt64) (y0 : Addr) (k_y0 : ClassId) (y1 : Addr) (k_y1 : ClassId) (h0 : Heap) (n0 : Nat) (Z0 : n0 ≤ h0.size) (B0 : own_R 15 Z n0 h0 tt aA aK aF aV (⟨y0, k_y0, .int, 2, none⟩ :: ⟨y1, k_y1, .double, 2, none⟩ :: aJ)) (at_8_1 : aF 8 1 = (.int 0)) (at_6_1 : aF 6 1 = (.ref y0)) (at_7_1 : aF 7 1 = (.ref y1)) :
    MetFree l (⟨"com/example/placewright/placewright/solver/RevisedSimplex", "addToRow", "(IID)V"⟩ : MethodName) (head1 (Jvm.Cond.code (⟨"com/example/placewright/placewright/solver/RevisedSimplex", "addToRow", "(IID)V"⟩ : MethodName) prog_29_method_4_code 5 none :: ws) ({ frames := 0, cells := 0, slots := 0, locals := 0 } : Room)) (fun a U => a = #[(.ref tt), (.int 1), (.int 0), (.double d3)] ∧ Z.Warmed39 U.vm ∧ U.heap = h0) (fun _ _ _ _ _ => True) (fun _ U o U' => ∃ v L, o = .returned v ∧ own_Q11c Z tt aA aK aF aV aJ d3 y0 k_y0 y1 k_y1 h0 n0 v U'.heap L ∧ FrameEnd U o U' L ({ frames := 0, cells := 0, slots := 0, locals := 0 } : Room).cells ({ frames := 0, cells := 0, slots := 0, locals := 0 } : Room).slots) := by
  refine MetFree.of_bodySF (plainFor_of_name own_pn4) hisR ?_
  intro p e s m args below meth c s₁ Bd hml0 hP hK
  obtain ⟨rfl, hZ, hh⟩ := hP
  have hx := Bd.exec
  have hby := Bd.bytes
  have hml : c.maxLocals = 5 := hml0
  have hown : s.vm.findClass "com/example/placewright/placewright/solver/RevisedSimplex" = some m.cls := findClass_of_methodNamed Bd.named
  have hnm := (name_of_methodNamed Bd.named Bd.method).1
  have X0 : Stand p l e ({ frames := 0, cells := 0, slots := 0, locals := 0 } : Room) s m #[(.ref tt), (.int 1), (.int 0), (.double d3)] below meth c s₁ [] 0 0 := Stand.of_body Bd
  have e0 : s₁.heap = h0 := by rw [← hh, Bd.state]; rfl
  have N0 := Fr.nil n0
  have Zr : h0.size ≤ h0.size := Nat.le_refl _
  have pre0 : ∀ t, Steps p.tables e below (s₁.setTop (mkF m 0 #[.val (.ref tt), .val (.int 1), .val (.int 0), .val (.double d3), .second] [])) t → Steps p.tables e below (s₁.setTop (entryFrame m #[(.ref tt), (.int 1), (.int 0), (.double d3)] 5)) t := fun t k => castTop (own_ef11c m tt d3) k
  obtain ⟨Tn1, Xn1, en1, stn1⟩ := getF X0 hx hZ hown (host := "") (Or.inl (own_W hw 36 rfl)) Via.refl e0 (own_ga B0 8 (by decide) (by decide)) (g := (mkF m 1 (own_L60 tt d3) [(.ref tt)])) rfl rfl (hb hby own_d11_1)
  obtain ⟨Tn2, Xn2, en2, stn2⟩ := getF Xn1 hx hZ hown (host := "") (Or.inl (own_W hw 32 rfl)) Via.refl en1 (own_ga B0 6 (by decide) (by decide)) (g := (mkF m 7 (own_L60 tt d3) [(.ref tt), (.int 0)])) rfl rfl (hb hby own_d11_7)
  obtain ⟨Tn3, Xn3, en3, stn3⟩ := getF Xn2 hx hZ hown (host := "") (Or.inl (own_W hw 32 rfl)) Via.refl en2 (own_ga B0 6 (by decide) (by decide)) (g := (mkF m 63 (own_L60 tt d3) [(.ref tt)])) rfl rfl (hb hby own_d11_63)
  obtain ⟨Tn4, Xn4, en4, stn4⟩ := getF Xn3 hx hZ hown (host := "") (Or.inl (own_W hw 36 rfl)) Via.refl en3 (own_ga B0 8 (by decide) (by decide)) (g := (mkF m 69 (own_L60 tt d3) [(.ref tt), (.ref y0)])) rfl rfl (hb hby own_d11_69)
  obtain ⟨Tn5, hn5, Ln5, Xn5, en5, Bn5, Nn5, stn5⟩ := own_seI Xn4 hx hZ en4 B0 N0 0 0 rfl (by decide) (g := (mkF m 75 (own_L60 tt d3) [(.int 0), (.int 0), (.ref y0)])) rfl rfl (hb hby own_d11_75)
  obtain ⟨Tn6, Xn6, en6, stn6⟩ := getF Xn5 hx hZ hown (host := "") (Or.inl (own_W hw 34 rfl)) Via.refl en5 (own_ga Bn5 7 (by decide) (by decide)) (g := (mkF m 77 (own_L60 tt d3) [(.ref tt)])) rfl rfl (hb hby own_d11_77)
  obtain ⟨Tn7, Xn7, en7, stn7⟩ := getF Xn6 hx hZ hown (host := "") (Or.inl (own_W hw 36 rfl)) Via.refl en6 (own_ga Bn5 8 (by decide) (by decide)) (g := (mkF m 83 (own_L60 tt d3) [(.ref tt), (.ref y1)])) rfl rfl (hb hby own_d11_83)
  obtain ⟨Tn8, hn8, Ln8, Xn8, en8, Bn8, Nn8, stn8⟩ := own_seD Xn7 hx hZ en7 Bn5 Nn5 1 0 rfl (by decide) (g := (mkF m 89 (own_L60 tt d3) [(.double d3), (.int 0), (.ref y1)])) rfl rfl (hb hby own_d11_89)
  obtain ⟨Tn9, Xn9, en9, stn9⟩ := getF Xn8 hx hZ hown (host := "") (Or.inl (own_W hw 36 rfl)) Via.refl en8 (own_ga Bn8 8 (by decide) (by decide)) (g := (mkF m 91 (own_L60 tt d3) [(.ref tt)])) rfl rfl (hb hby own_d11_91)
  obtain ⟨Tn10, hn10, Ln10, Xn10, en10, Bn10, Nn10, stn10⟩ := own_stI Xn9 hx hZ en9 Bn8 Nn8 8 1 (by decide) rfl (by decide) (g := (mkF m 99 (own_L60 tt d3) [(.int 1), (.int 1), (.ref (aA 8))])) rfl rfl (hb hby own_d11_99)
  obtain ⟨fs, hr, hrun, hended, hW, hsame⟩ := Xn10.leave (v := none) (fun _ => rfl)
  refine ⟨_, _, pre0 _ (?_), hrun, hended, _, _, rfl, ?_, ⟨_, rfl⟩, hW, hsame.mono (by decide) (by decide)⟩
  · show Steps p.tables e below (s₁.setTop (mkF m 0 (own_L60 tt d3) [])) _
    refine XS.aloadN X0.here hx rfl (hb hby own_d11_0) rfl rfl ?_
    refine stn1 _ ?_
    refine XS.iloadN Xn1.here hx rfl (hb hby own_d11_4) rfl ?_
    refine own_ldI Xn1 hx hZ en1 (own_pk B0 8 (by decide)) 1 (by decide) (v := (.int 0)) at_8_1 (g := (mkF m 5 (own_L60 tt d3) [(.int 1), (.ref (aA 8))])) rfl rfl (hb hby own_d11_5) _ ?_
    show Steps p.tables e below (Tn1.setTop (mkF m 6 (own_L60 tt d3) [(.int 0)])) _
    refine XS.aloadN Xn1.here hx rfl (hb hby own_d11_6) rfl rfl ?_
    refine stn2 _ ?_
    refine XS.iloadN Xn2.here hx rfl (hb hby own_d11_10) rfl ?_
    refine own_ldR Xn2 hx hZ en2 (own_pk B0 6 (by decide)) 1 (by decide) (v := (.ref y0)) at_6_1 (g := (mkF m 11 (own_L60 tt d3) [(.int 1), (.ref (aA 6)), (.int 0)])) rfl rfl (hb hby own_d11_11) _ ?_
    show Steps p.tables e below (Tn2.setTop (mkF m 12 (own_L60 tt d3) [(.ref y0), (.int 0)])) _
    refine own_len Xn2 hx hZ en2 (own_en (m := 0) B0 rfl) (g := (mkF m 12 (own_L60 tt d3) [(.ref y0), (.int 0)])) rfl rfl (hb hby own_d11_12) _ ?_
    refine XS.icmpYes Xn2.here hx rfl (pc0 := 13) (pc' := 62) rfl (hb hby own_d11_13) rfl (XT.ii_ne_t (by decide : ¬ ((0 : Int32) = (2 : Int32)))) (by decide) (by decide) ?_
    refine XS.aloadN Xn2.here hx rfl (hb hby own_d11_62) rfl rfl ?_
    refine stn3 _ ?_
    show Steps p.tables e below (Tn3.setTop (mkF m 66 (own_L60 tt d3) [(.ref (aA 6))])) _
    refine XS.iloadN Xn3.here hx rfl (hb hby own_d11_66) rfl ?_
    refine own_ldR Xn3 hx hZ en3 (own_pk B0 6 (by decide)) 1 (by decide) (v := (.ref y0)) at_6_1 (g := (mkF m 67 (own_L60 tt d3) [(.int 1), (.ref (aA 6))])) rfl rfl (hb hby own_d11_67) _ ?_
    refine XS.aloadN Xn3.here hx rfl (hb hby own_d11_68) rfl rfl ?_
    refine stn4 _ ?_
    show Steps p.tables e below (Tn4.setTop (mkF m 72 (own_L60 tt d3) [(.ref (aA 8)), (.ref y0)])) _
    refine XS.iloadN Xn4.here hx rfl (hb hby own_d11_72) rfl ?_
    refine own_ldI Xn4 hx hZ en4 (own_pk B0 8 (by decide)) 1 (by decide) (v := (.int 0)) at_8_1 (g := (mkF m 73 (own_L60 tt d3) [(.int 1), (.ref (aA 8)), (.ref y0)])) rfl rfl (hb hby own_d11_73) _ ?_
    refine XS.iloadN Xn4.here hx rfl (hb hby own_d11_74) rfl ?_
    refine stn5 _ ?_
    show Steps p.tables e below (Tn5.setTop (mkF m 76 (own_L60 tt d3) [])) _
    refine XS.aloadN Xn5.here hx rfl (hb hby own_d11_76) rfl rfl ?_
    refine stn6 _ ?_
    refine XS.iloadN Xn6.here hx rfl (hb hby own_d11_80) rfl ?_
    refine own_ldR Xn6 hx hZ en6 (own_pk Bn5 7 (by decide)) 1 (by decide) (v := (.ref y1)) at_7_1 (g := (mkF m 81 (own_L60 tt d3) [(.int 1), (.ref (aA 7))])) rfl rfl (hb hby own_d11_81) _ ?_
    show Steps p.tables e below (Tn6.setTop (mkF m 82 (own_L60 tt d3) [(.ref y1)])) _
    refine XS.aloadN Xn6.here hx rfl (hb hby own_d11_82) rfl rfl ?_
    refine stn7 _ ?_
    refine XS.iloadN Xn7.here hx rfl (hb hby own_d11_86) rfl ?_
    refine own_ldI Xn7 hx hZ en7 (own_pk Bn5 8 (by decide)) 1 (by decide) (v := (.int 0)) at_8_1 (g := (mkF m 87 (own_L60 tt d3) [(.int 1), (.ref (aA 8)), (.ref y1)])) rfl rfl (hb hby own_d11_87) _ ?_
    show Steps p.tables e below (Tn7.setTop (mkF m 88 (own_L60 tt d3) [(.int 0), (.ref y1)])) _
    refine XS.dloadN Xn7.here hx rfl (hb hby own_d11_88) rfl ?_
    refine stn8 _ ?_
    refine XS.aloadN Xn8.here hx rfl (hb hby own_d11_90) rfl rfl ?_
    refine stn9 _ ?_
    show Steps p.tables e below (Tn9.setTop (mkF m 94 (own_L60 tt d3) [(.ref (aA 8))])) _
    refine XS.iloadN Xn9.here hx rfl (hb hby own_d11_94) rfl ?_
    show Steps p.tables e below (Tn9.setTop (mkF m 95 (own_L60 tt d3) [(.int 1), (.ref (aA 8))])) _
    refine XT.dup2 Xn9.here hx rfl (hb hby own_d11_95) rfl rfl rfl ?_
    refine own_ldI Xn9 hx hZ en9 (own_pk Bn8 8 (by decide)) 1 (by decide) (v := (.int 0)) at_8_1 (g := (mkF m 96 (own_L60 tt d3) [(.int 1), (.ref (aA 8)), (.int 1), (.ref (aA 8))])) rfl rfl (hb hby own_d11_96) _ ?_
    refine XS.iconst Xn9.here hx rfl (hb hby own_d11_97) ?_
    refine XS.iadd Xn9.here hx rfl (hb hby own_d11_98) rfl ?_
    show Steps p.tables e below (Tn9.setTop (mkF m 99 (own_L60 tt d3) [(.int 1), (.int 1), (.ref (aA 8))])) _
    refine stn10 _ ?_
    show Steps p.tables e below (Tn10.setTop (mkF m 100 (own_L60 tt d3) [])) _
    exact Xn10.returnOut hx Bd.returns (hb hby own_d11_100) hr
  · show own_Q11c Z tt aA aK aF aV aJ d3 y0 k_y0 y1 k_y1 h0 n0 _ Tn10.heap _
    rw [en10]
    exact ⟨rfl, Nn10, Bn10⟩
def own_L61 (x0 : Addr) (x1 : UInt64) (x2 : Addr) (x3 : Addr) (x4 : UInt64) (x5 : UInt64) : Array Slot := #[.val (.ref x0), .val (.double x1), .second, .val (.ref x2), .val (.ref x3), .val (.double x4), .second, .val (.double x5), .second, .val (.int 1), .val (.int 1), .val (.int 0), .unset, .unset, .unset]
def own_L62 (x0 : Addr) (x1 : UInt64) (x2 : Addr) (x3 : Addr) (x4 : UInt64) (x5 : UInt64) : Array Slot := #[.val (.ref x0), .val (.double x1), .second, .val (.ref x2), .val (.ref x3), .val (.double x4), .second, .val (.double x5), .second, .val (.int 1), .val (.double 0), .second, .unset, .unset, .unset]
def own_L63 (x0 : Addr) (x1 : UInt64) (x2 : Addr) (x3 : Addr) (x4 : UInt64) (x5 : UInt64) : Array Slot := #[.val (.ref x0), .val (.double x1), .second, .val (.ref x2), .val (.ref x3), .val (.double x4), .second, .val (.double x5), .second, .val (.int 1), .val (.double 0), .second, .val (.int 0), .unset, .unset]
def own_L64 (x0 : Addr) (x1 : UInt64) (x2 : Addr) (x3 : Addr) (x4 : UInt64) (x5 : UInt64) : Array Slot := #[.val (.ref x0), .val (.double x1), .second, .val (.ref x2), .val (.ref x3), .val (.double x4), .second, .val (.double x5), .second, .val (.int 1), .val (.double 0), .second, .val (.int 0), .val (.int 0), .unset]
def own_L65 (x0 : Addr) (x1 : UInt64) (x2 : Addr) (x3 : Addr) (x4 : UInt64) (x5 : UInt64) (x6 : UInt64) : Array Slot := #[.val (.ref x0), .val (.double x1), .second, .val (.ref x2), .val (.ref x3), .val (.double x4), .second, .val (.double x5), .second, .val (.int 1), .val (.double x6), .second, .val (.int 0), .val (.int 0), .unset]
def own_L66 (x0 : Addr) (x1 : UInt64) (x2 : Addr) (x3 : Addr) (x4 : UInt64) (x5 : UInt64) (x6 : UInt64) : Array Slot := #[.val (.ref x0), .val (.double x1), .second, .val (.ref x2), .val (.ref x3), .val (.double x4), .second, .val (.double x5), .second, .val (.int 1), .val (.double x6), .second, .val (.int 1), .val (.int 0), .unset]
def own_L67 (x0 : Addr) (x1 : UInt64) (x2 : Addr) (x3 : Addr) (x4 : UInt64) (x5 : UInt64) (x6 : UInt64) (x7 : UInt64) : Array Slot := #[.val (.ref x0), .val (.double x1), .second, .val (.ref x2), .val (.ref x3), .val (.double x4), .second, .val (.double x5), .second, .val (.int 1), .val (.double x6), .second, .val (.double x7), .second, .unset]
def own_L68 (x0 : Addr) (x1 : Addr) (x2 : Addr) (x3 : UInt64) : Array Slot := #[.val (.ref x0), .val (.ref x1), .val (.ref x2), .val (.double x3), .second, .val (.int 2), .unset]
def own_L69 (x0 : Addr) (x1 : Addr) (x2 : Addr) (x3 : UInt64) : Array Slot := #[.val (.ref x0), .val (.ref x1), .val (.ref x2), .val (.double x3), .second, .val (.int 2), .val (.int 0)]
def own_L70 (x0 : Addr) (x1 : UInt64) : Array Slot := #[.val (.ref x0), .val (.int 1), .val (.int 2), .val (.double x1), .second]
theorem own_ef11d (m : MethodId) (tt : Addr) (d3 : UInt64) : entryFrame m #[(.ref tt), (.int 1), (.int 2), (.double d3)] 5 = mkF m 0 #[.val (.ref tt), .val (.int 1), .val (.int 2), .val (.double d3), .second] [] := by first | (simp [entryFrame, mkF, argsToLocals, Value.category]; done) | rfl
def own_Q11d (Z : State) (tt : Addr) (aA : Nat → Addr) (aK : Nat → ClassId) (aF : Nat → Nat → Value) (aV : Nat → Value) (aJ : List own_e) (d3 : UInt64) (y0 : Addr) (k_y0 : ClassId) (y1 : Addr) (k_y1 : ClassId) (h0 : Heap) (n0 : Nat) (v : Option Value) (h : Heap) (L : List Loc) : Prop := v = none ∧ Fr n0 L ∧ own_R 15 Z n0 h tt aA aK (own_up2 aF 8 1 (.int 2)) aV (⟨y0, k_y0, .int, 2, none⟩ :: ⟨y1, k_y1, .double, 2, none⟩ :: aJ)
set_option maxRecDepth 65536 in
set_option maxHeartbeats 40000000 in
theorem own_rm11d (l : Launch) (Z : State) (a0 : Array Value) (hw : ∀ d ∈ tables_1, d.before a0 Z = true) (ws : List Jvm.Cond) (tt : Addr) (aA : Nat → Addr) (aK : Nat → ClassId) (aF : Nat → Nat → Value) (aV : Nat → Value) (aJ : List own_e) (d3 : UInt64) (y0 : Addr) (k_y0 : ClassId) (y1 : Addr) (k_y1 : ClassId) (h0 : Heap) (n0 : Nat) (Z0 : n0 ≤ h0.size) (B0 : own_R 15 Z n0 h0 tt aA aK aF aV (⟨y0, k_y0, .int, 2, none⟩ :: ⟨y1, k_y1, .double, 2, none⟩ :: aJ)) (at_8_1 : aF 8 1 = (.int 1)) (at_6_1 : aF 6 1 = (.ref y0)) (at_7_1 : aF 7 1 = (.ref y1)) :
    MetFree l (⟨"com/example/placewright/placewright/solver/RevisedSimplex", "addToRow", "(IID)V"⟩ : MethodName) (head1 (Jvm.Cond.code (⟨"com/example/placewright/placewright/solver/RevisedSimplex", "addToRow", "(IID)V"⟩ : MethodName) prog_29_method_4_code 5 none :: ws) ({ frames := 0, cells := 0, slots := 0, locals := 0 } : Room)) (fun a U => a = #[(.ref tt), (.int 1), (.int 2), (.double d3)] ∧ Z.Warmed39 U.vm ∧ U.heap = h0) (fun _ _ _ _ _ => True) (fun _ U o U' => ∃ v L, o = .returned v ∧ own_Q11d Z tt aA aK aF aV aJ d3 y0 k_y0 y1 k_y1 h0 n0 v U'.heap L ∧ FrameEnd U o U' L ({ frames := 0, cells := 0, slots := 0, locals := 0 } : Room).cells ({ frames := 0, cells := 0, slots := 0, locals := 0 } : Room).slots) := by
  refine MetFree.of_bodySF (plainFor_of_name own_pn4) hisR ?_
  intro p e s m args below meth c s₁ Bd hml0 hP hK
  obtain ⟨rfl, hZ, hh⟩ := hP
  have hx := Bd.exec
  have hby := Bd.bytes
  have hml : c.maxLocals = 5 := hml0
  have hown : s.vm.findClass "com/example/placewright/placewright/solver/RevisedSimplex" = some m.cls := findClass_of_methodNamed Bd.named
  have hnm := (name_of_methodNamed Bd.named Bd.method).1
  have X0 : Stand p l e ({ frames := 0, cells := 0, slots := 0, locals := 0 } : Room) s m #[(.ref tt), (.int 1), (.int 2), (.double d3)] below meth c s₁ [] 0 0 := Stand.of_body Bd
  have e0 : s₁.heap = h0 := by rw [← hh, Bd.state]; rfl
  have N0 := Fr.nil n0
  have Zr : h0.size ≤ h0.size := Nat.le_refl _
  have pre0 : ∀ t, Steps p.tables e below (s₁.setTop (mkF m 0 #[.val (.ref tt), .val (.int 1), .val (.int 2), .val (.double d3), .second] [])) t → Steps p.tables e below (s₁.setTop (entryFrame m #[(.ref tt), (.int 1), (.int 2), (.double d3)] 5)) t := fun t k => castTop (own_ef11d m tt d3) k
  obtain ⟨Tn1, Xn1, en1, stn1⟩ := getF X0 hx hZ hown (host := "") (Or.inl (own_W hw 36 rfl)) Via.refl e0 (own_ga B0 8 (by decide) (by decide)) (g := (mkF m 1 (own_L70 tt d3) [(.ref tt)])) rfl rfl (hb hby own_d11_1)
  obtain ⟨Tn2, Xn2, en2, stn2⟩ := getF Xn1 hx hZ hown (host := "") (Or.inl (own_W hw 32 rfl)) Via.refl en1 (own_ga B0 6 (by decide) (by decide)) (g := (mkF m 7 (own_L70 tt d3) [(.ref tt), (.int 1)])) rfl rfl (hb hby own_d11_7)
  obtain ⟨Tn3, Xn3, en3, stn3⟩ := getF Xn2 hx hZ hown (host := "") (Or.inl (own_W hw 32 rfl)) Via.refl en2 (own_ga B0 6 (by decide) (by decide)) (g := (mkF m 63 (own_L70 tt d3) [(.ref tt)])) rfl rfl (hb hby own_d11_63)
  obtain ⟨Tn4, Xn4, en4, stn4⟩ := getF Xn3 hx hZ hown (host := "") (Or.inl (own_W hw 36 rfl)) Via.refl en3 (own_ga B0 8 (by decide) (by decide)) (g := (mkF m 69 (own_L70 tt d3) [(.ref tt), (.ref y0)])) rfl rfl (hb hby own_d11_69)
  obtain ⟨Tn5, hn5, Ln5, Xn5, en5, Bn5, Nn5, stn5⟩ := own_seI Xn4 hx hZ en4 B0 N0 0 1 rfl (by decide) (g := (mkF m 75 (own_L70 tt d3) [(.int 2), (.int 1), (.ref y0)])) rfl rfl (hb hby own_d11_75)
  obtain ⟨Tn6, Xn6, en6, stn6⟩ := getF Xn5 hx hZ hown (host := "") (Or.inl (own_W hw 34 rfl)) Via.refl en5 (own_ga Bn5 7 (by decide) (by decide)) (g := (mkF m 77 (own_L70 tt d3) [(.ref tt)])) rfl rfl (hb hby own_d11_77)
  obtain ⟨Tn7, Xn7, en7, stn7⟩ := getF Xn6 hx hZ hown (host := "") (Or.inl (own_W hw 36 rfl)) Via.refl en6 (own_ga Bn5 8 (by decide) (by decide)) (g := (mkF m 83 (own_L70 tt d3) [(.ref tt), (.ref y1)])) rfl rfl (hb hby own_d11_83)
  obtain ⟨Tn8, hn8, Ln8, Xn8, en8, Bn8, Nn8, stn8⟩ := own_seD Xn7 hx hZ en7 Bn5 Nn5 1 1 rfl (by decide) (g := (mkF m 89 (own_L70 tt d3) [(.double d3), (.int 1), (.ref y1)])) rfl rfl (hb hby own_d11_89)
  obtain ⟨Tn9, Xn9, en9, stn9⟩ := getF Xn8 hx hZ hown (host := "") (Or.inl (own_W hw 36 rfl)) Via.refl en8 (own_ga Bn8 8 (by decide) (by decide)) (g := (mkF m 91 (own_L70 tt d3) [(.ref tt)])) rfl rfl (hb hby own_d11_91)
  obtain ⟨Tn10, hn10, Ln10, Xn10, en10, Bn10, Nn10, stn10⟩ := own_stI Xn9 hx hZ en9 Bn8 Nn8 8 1 (by decide) rfl (by decide) (g := (mkF m 99 (own_L70 tt d3) [(.int 2), (.int 1), (.ref (aA 8))])) rfl rfl (hb hby own_d11_99)
  obtain ⟨fs, hr, hrun, hended, hW, hsame⟩ := Xn10.leave (v := none) (fun _ => rfl)
  refine ⟨_, _, pre0 _ (?_), hrun, hended, _, _, rfl, ?_, ⟨_, rfl⟩, hW, hsame.mono (by decide) (by decide)⟩
  · show Steps p.tables e below (s₁.setTop (mkF m 0 (own_L70 tt d3) [])) _
    refine XS.aloadN X0.here hx rfl (hb hby own_d11_0) rfl rfl ?_
    refine stn1 _ ?_
    refine XS.iloadN Xn1.here hx rfl (hb hby own_d11_4) rfl ?_
    refine own_ldI Xn1 hx hZ en1 (own_pk B0 8 (by decide)) 1 (by decide) (v := (.int 1)) at_8_1 (g := (mkF m 5 (own_L70 tt d3) [(.int 1), (.ref (aA 8))])) rfl rfl (hb hby own_d11_5) _ ?_
    show Steps p.tables e below (Tn1.setTop (mkF m 6 (own_L70 tt d3) [(.int 1)])) _
    refine XS.aloadN Xn1.here hx rfl (hb hby own_d11_6) rfl rfl ?_
    refine stn2 _ ?_
    refine XS.iloadN Xn2.here hx rfl (hb hby own_d11_10) rfl ?_
    refine own_ldR Xn2 hx hZ en2 (own_pk B0 6 (by decide)) 1 (by decide) (v := (.ref y0)) at_6_1 (g := (mkF m 11 (own_L70 tt d3) [(.int 1), (.ref (aA 6)), (.int 1)])) rfl rfl (hb hby own_d11_11) _ ?_
    show Steps p.tables e below (Tn2.setTop (mkF m 12 (own_L70 tt d3) [(.ref y0), (.int 1)])) _
    refine own_len Xn2 hx hZ en2 (own_en (m := 0) B0 rfl) (g := (mkF m 12 (own_L70 tt d3) [(.ref y0), (.int 1)])) rfl rfl (hb hby own_d11_12) _ ?_
    refine XS.icmpYes Xn2.here hx rfl (pc0 := 13) (pc' := 62) rfl (hb hby own_d11_13) rfl (XT.ii_ne_t (by decide : ¬ ((1 : Int32) = (2 : Int32)))) (by decide) (by decide) ?_
    refine XS.aloadN Xn2.here hx rfl (hb hby own_d11_62) rfl rfl ?_
    refine stn3 _ ?_
    show Steps p.tables e below (Tn3.setTop (mkF m 66 (own_L70 tt d3) [(.ref (aA 6))])) _
    refine XS.iloadN Xn3.here hx rfl (hb hby own_d11_66) rfl ?_
    refine own_ldR Xn3 hx hZ en3 (own_pk B0 6 (by decide)) 1 (by decide) (v := (.ref y0)) at_6_1 (g := (mkF m 67 (own_L70 tt d3) [(.int 1), (.ref (aA 6))])) rfl rfl (hb hby own_d11_67) _ ?_
    refine XS.aloadN Xn3.here hx rfl (hb hby own_d11_68) rfl rfl ?_
    refine stn4 _ ?_
    show Steps p.tables e below (Tn4.setTop (mkF m 72 (own_L70 tt d3) [(.ref (aA 8)), (.ref y0)])) _
    refine XS.iloadN Xn4.here hx rfl (hb hby own_d11_72) rfl ?_
    refine own_ldI Xn4 hx hZ en4 (own_pk B0 8 (by decide)) 1 (by decide) (v := (.int 1)) at_8_1 (g := (mkF m 73 (own_L70 tt d3) [(.int 1), (.ref (aA 8)), (.ref y0)])) rfl rfl (hb hby own_d11_73) _ ?_
    refine XS.iloadN Xn4.here hx rfl (hb hby own_d11_74) rfl ?_
    refine stn5 _ ?_
    show Steps p.tables e below (Tn5.setTop (mkF m 76 (own_L70 tt d3) [])) _
    refine XS.aloadN Xn5.here hx rfl (hb hby own_d11_76) rfl rfl ?_
    refine stn6 _ ?_
    refine XS.iloadN Xn6.here hx rfl (hb hby own_d11_80) rfl ?_
    refine own_ldR Xn6 hx hZ en6 (own_pk Bn5 7 (by decide)) 1 (by decide) (v := (.ref y1)) at_7_1 (g := (mkF m 81 (own_L70 tt d3) [(.int 1), (.ref (aA 7))])) rfl rfl (hb hby own_d11_81) _ ?_
    show Steps p.tables e below (Tn6.setTop (mkF m 82 (own_L70 tt d3) [(.ref y1)])) _
    refine XS.aloadN Xn6.here hx rfl (hb hby own_d11_82) rfl rfl ?_
    refine stn7 _ ?_
    refine XS.iloadN Xn7.here hx rfl (hb hby own_d11_86) rfl ?_
    refine own_ldI Xn7 hx hZ en7 (own_pk Bn5 8 (by decide)) 1 (by decide) (v := (.int 1)) at_8_1 (g := (mkF m 87 (own_L70 tt d3) [(.int 1), (.ref (aA 8)), (.ref y1)])) rfl rfl (hb hby own_d11_87) _ ?_
    show Steps p.tables e below (Tn7.setTop (mkF m 88 (own_L70 tt d3) [(.int 1), (.ref y1)])) _
    refine XS.dloadN Xn7.here hx rfl (hb hby own_d11_88) rfl ?_
    refine stn8 _ ?_
    refine XS.aloadN Xn8.here hx rfl (hb hby own_d11_90) rfl rfl ?_
    refine stn9 _ ?_
    show Steps p.tables e below (Tn9.setTop (mkF m 94 (own_L70 tt d3) [(.ref (aA 8))])) _
    refine XS.iloadN Xn9.here hx rfl (hb hby own_d11_94) rfl ?_
    show Steps p.tables e below (Tn9.setTop (mkF m 95 (own_L70 tt d3) [(.int 1), (.ref (aA 8))])) _
    refine XT.dup2 Xn9.here hx rfl (hb hby own_d11_95) rfl rfl rfl ?_
    refine own_ldI Xn9 hx hZ en9 (own_pk Bn8 8 (by decide)) 1 (by decide) (v := (.int 1)) at_8_1 (g := (mkF m 96 (own_L70 tt d3) [(.int 1), (.ref (aA 8)), (.int 1), (.ref (aA 8))])) rfl rfl (hb hby own_d11_96) _ ?_
    refine XS.iconst Xn9.here hx rfl (hb hby own_d11_97) ?_
    refine XS.iadd Xn9.here hx rfl (hb hby own_d11_98) rfl ?_
    show Steps p.tables e below (Tn9.setTop (mkF m 99 (own_L70 tt d3) [(.int 2), (.int 1), (.ref (aA 8))])) _
    refine stn10 _ ?_
    show Steps p.tables e below (Tn10.setTop (mkF m 100 (own_L70 tt d3) [])) _
    exact Xn10.returnOut hx Bd.returns (hb hby own_d11_100) hr
  · show own_Q11d Z tt aA aK aF aV aJ d3 y0 k_y0 y1 k_y1 h0 n0 _ Tn10.heap _
    rw [en10]
    exact ⟨rfl, Nn10, Bn10⟩
def own_L71 (x0 : Addr) (x1 : Addr) (x2 : Addr) (x3 : UInt64) : Array Slot := #[.val (.ref x0), .val (.ref x1), .val (.ref x2), .val (.double x3), .second, .val (.int 2), .val (.int 1)]
theorem own_ef13c (m : MethodId) (tt : Addr) : entryFrame m #[(.ref tt), (.int 2)] 2 = mkF m 0 #[.val (.ref tt), .val (.int 2)] [] := by first | (simp [entryFrame, mkF, argsToLocals, Value.category]; done) | rfl
def own_Q13c (Z : State) (tt : Addr) (aA : Nat → Addr) (aK : Nat → ClassId) (aF : Nat → Nat → Value) (aV : Nat → Value) (aJ : List own_e) (h0 : Heap) (n0 : Nat) (v : Option Value) (h : Heap) (L : List Loc) : Prop := v = some (.int 0) ∧ Fr n0 L ∧ own_R 15 Z n0 h tt aA aK aF aV (aJ)
set_option maxRecDepth 65536 in
set_option maxHeartbeats 40000000 in
theorem own_rm13c (l : Launch) (Z : State) (a0 : Array Value) (hw : ∀ d ∈ tables_1, d.before a0 Z = true) (ws : List Jvm.Cond) (tt : Addr) (aA : Nat → Addr) (aK : Nat → ClassId) (aF : Nat → Nat → Value) (aV : Nat → Value) (aJ : List own_e) (h0 : Heap) (n0 : Nat) (Z0 : n0 ≤ h0.size) (B0 : own_R 15 Z n0 h0 tt aA aK aF aV (aJ)) (at_3_2 : aF 3 2 = (.int (-1 : Int32))) (at_4_2 : aF 4 2 = (.double 0)) (hc19 : ¬ ((cmpValue (FP.dcmp (0 : UInt64) (13695778570484766357 : UInt64)) .g) < (0 : Int32))) :
    MetFree l (⟨"com/example/placewright/placewright/solver/RevisedSimplex", "prices", "(I)Z"⟩ : MethodName) (head1 (Jvm.Cond.code (⟨"com/example/placewright/placewright/solver/RevisedSimplex", "prices", "(I)Z"⟩ : MethodName) prog_29_method_31_code 2 (some .boolean) :: ws) ({ frames := 0, cells := 0, slots := 0, locals := 0 } : Room)) (fun a U => a = #[(.ref tt), (.int 2)] ∧ Z.Warmed39 U.vm ∧ U.heap = h0) (fun _ _ _ _ _ => True) (fun _ U o U' => ∃ v L, o = .returned v ∧ own_Q13c Z tt aA aK aF aV aJ h0 n0 v U'.heap L ∧ FrameEnd U o U' L ({ frames := 0, cells := 0, slots := 0, locals := 0 } : Room).cells ({ frames := 0, cells := 0, slots := 0, locals := 0 } : Room).slots) := by
  refine MetFree.of_bodySF (plainFor_of_name own_pn4) hisR ?_
  intro p e s m args below meth c s₁ Bd hml0 hP hK
  obtain ⟨rfl, hZ, hh⟩ := hP
  have hx := Bd.exec
  have hby := Bd.bytes
  have hml : c.maxLocals = 2 := hml0
  have hown : s.vm.findClass "com/example/placewright/placewright/solver/RevisedSimplex" = some m.cls := findClass_of_methodNamed Bd.named
  have hnm := (name_of_methodNamed Bd.named Bd.method).1
  have X0 : Stand p l e ({ frames := 0, cells := 0, slots := 0, locals := 0 } : Room) s m #[(.ref tt), (.int 2)] below meth c s₁ [] 0 0 := Stand.of_body Bd
  have e0 : s₁.heap = h0 := by rw [← hh, Bd.state]; rfl
  have N0 := Fr.nil n0
  have Zr : h0.size ≤ h0.size := Nat.le_refl _
  have pre0 : ∀ t, Steps p.tables e below (s₁.setTop (mkF m 0 #[.val (.ref tt), .val (.int 2)] [])) t → Steps p.tables e below (s₁.setTop (entryFrame m #[(.ref tt), (.int 2)] 2)) t := fun t k => castTop (own_ef13c m tt) k
  obtain ⟨Tn1, Xn1, en1, stn1⟩ := getF X0 hx hZ hown (host := "") (Or.inl (own_W hw 26 rfl)) Via.refl e0 (own_ga B0 3 (by decide) (by decide)) (g := (mkF m 1 #[.val (.ref tt), .val (.int 2)] [(.ref tt)])) rfl rfl (hb hby own_d13_1)
  obtain ⟨Tn2, Xn2, en2, stn2⟩ := getF Xn1 hx hZ hown (host := "") (Or.inl (own_W hw 28 rfl)) Via.refl en1 (own_ga B0 4 (by decide) (by decide)) (g := (mkF m 10 #[.val (.ref tt), .val (.int 2)] [(.ref tt)])) rfl rfl (hb hby own_d13_10)
  obtain ⟨fs, hr, hrun, hended, hW, hsame⟩ := Xn2.leave (v := some (.int 0)) (fun h => by rw [Bd.returns] at h; cases h)
  refine ⟨_, _, pre0 _ (?_), hrun, hended, _, _, rfl, ?_, ⟨_, rfl⟩, hW, hsame.mono (by decide) (by decide)⟩
  · show Steps p.tables e below (s₁.setTop (mkF m 0 #[.val (.ref tt), .val (.int 2)] [])) _
    refine XS.aloadN X0.here hx rfl (hb hby own_d13_0) rfl rfl ?_
    refine stn1 _ ?_
    refine XS.iloadN Xn1.here hx rfl (hb hby own_d13_4) rfl ?_
    refine own_ldI Xn1 hx hZ en1 (own_pk B0 3 (by decide)) 2 (by decide) (v := (.int (-1 : Int32))) at_3_2 (g := (mkF m 5 #[.val (.ref tt), .val (.int 2)] [(.int 2), (.ref (aA 3))])) rfl rfl (hb hby own_d13_5) _ ?_
    show Steps p.tables e below (Tn1.setTop (mkF m 6 #[.val (.ref tt), .val (.int 2)] [(.int (-1 : Int32))])) _
    refine XS.ifNo Xn1.here hx rfl (hb hby own_d13_6) rfl (XT.i0_ge_f (by decide : (-1 : Int32) < (0 : Int32))) ?_
    refine XS.aloadN Xn1.here hx rfl (hb hby own_d13_9) rfl rfl ?_
    refine stn2 _ ?_
    show Steps p.tables e below (Tn2.setTop (mkF m 13 #[.val (.ref tt), .val (.int 2)] [(.ref (aA 4))])) _
    refine XS.iloadN Xn2.here hx rfl (hb hby own_d13_13) rfl ?_
    refine own_ldD Xn2 hx hZ en2 (own_pk B0 4 (by decide)) 2 (by decide) (v := (.double 0)) at_4_2 (g := (mkF m 14 #[.val (.ref tt), .val (.int 2)] [(.int 2), (.ref (aA 4))])) rfl rfl (hb hby own_d13_14) _ ?_
    refine Xn2.ldc2DoubleC hx hown (mvT hZ (own_W hw 134 rfl)) (g := (mkF m 15 #[.val (.ref tt), .val (.int 2)] [(.double 0)])) rfl (hb hby own_d13_15) _ ?_
    show Steps p.tables e below (Tn2.setTop (mkF m 18 #[.val (.ref tt), .val (.int 2)] [(.double 13695778570484766357), (.double 0)])) _
    refine XS.dcmpS Xn2.here hx rfl (hb hby own_d13_18) rfl rfl ?_
    refine XS.ifYes Xn2.here hx rfl (pc0 := 19) (pc' := 26) rfl (hb hby own_d13_19) rfl (XT.i0_ge_t hc19) (by decide) (by decide) ?_
    refine XS.iconst Xn2.here hx rfl (hb hby own_d13_26) ?_
    show Steps p.tables e below (Tn2.setTop (mkF m 27 #[.val (.ref tt), .val (.int 2)] [(.int 0)])) _
    exact retN Xn2 hx (t := .boolean) Bd.returns (by simp) (hb hby own_d13_27) hr
  · show own_Q13c Z tt aA aK aF aV aJ h0 n0 _ Tn2.heap _
    rw [en2]
    exact ⟨rfl, N0, B0⟩
theorem own_ef12c (m : MethodId) (tt : Addr) : entryFrame m #[(.ref tt), (.int 2)] 2 = mkF m 0 #[.val (.ref tt), .val (.int 2)] [] := by first | (simp [entryFrame, mkF, argsToLocals, Value.category]; done) | rfl
def own_Q12c (Z : State) (tt : Addr) (aA : Nat → Addr) (aK : Nat → ClassId) (aF : Nat → Nat → Value) (aV : Nat → Value) (aJ : List own_e) (h0 : Heap) (n0 : Nat) (v : Option Value) (h : Heap) (L : List Loc) : Prop := v = none ∧ Fr n0 L ∧ own_R 15 Z n0 h tt aA aK aF aV (aJ)
set_option maxRecDepth 65536 in
set_option maxHeartbeats 40000000 in
theorem own_rm12c (l : Launch) (Z : State) (a0 : Array Value) (hw : ∀ d ∈ tables_1, d.before a0 Z = true) (ws : List Jvm.Cond) (tt : Addr) (aA : Nat → Addr) (aK : Nat → ClassId) (aF : Nat → Nat → Value) (aV : Nat → Value) (aJ : List own_e) (h0 : Heap) (n0 : Nat) (Z0 : n0 ≤ h0.size) (B0 : own_R 15 Z n0 h0 tt aA aK aF aV (aJ)) (at_10_2 : aF 10 2 = (.int 0)) (at_3_2 : aF 3 2 = (.int (-1 : Int32))) (at_4_2 : aF 4 2 = (.double 0)) (c11_hc19 : ¬ ((cmpValue (FP.dcmp (0 : UInt64) (13695778570484766357 : UInt64)) .g) < (0 : Int32))) :
    MetFree l (⟨"com/example/placewright/placewright/solver/RevisedSimplex", "list", "(I)V"⟩ : MethodName) (head1 (Jvm.Cond.code (⟨"com/example/placewright/placewright/solver/RevisedSimplex", "list", "(I)V"⟩ : MethodName) prog_29_method_32_code 2 none :: ws) ({ frames := 1, cells := 0, slots := 0, locals := 13 } : Room)) (fun a U => a = #[(.ref tt), (.int 2)] ∧ Z.Warmed39 U.vm ∧ U.heap = h0) (fun _ _ _ _ _ => True) (fun _ U o U' => ∃ v L, o = .returned v ∧ own_Q12c Z tt aA aK aF aV aJ h0 n0 v U'.heap L ∧ FrameEnd U o U' L ({ frames := 1, cells := 0, slots := 0, locals := 13 } : Room).cells ({ frames := 1, cells := 0, slots := 0, locals := 13 } : Room).slots) := by
  refine MetFree.of_bodySF (plainFor_of_name own_pn4) hisR ?_
  intro p e s m args below meth c s₁ Bd hml0 hP hK
  obtain ⟨rfl, hZ, hh⟩ := hP
  have hx := Bd.exec
  have hby := Bd.bytes
  have hml : c.maxLocals = 2 := hml0
  have hown : s.vm.findClass "com/example/placewright/placewright/solver/RevisedSimplex" = some m.cls := findClass_of_methodNamed Bd.named
  have hnm := (name_of_methodNamed Bd.named Bd.method).1
  have X0 : Stand p l e ({ frames := 1, cells := 0, slots := 0, locals := 13 } : Room) s m #[(.ref tt), (.int 2)] below meth c s₁ [] 0 0 := Stand.of_body Bd
  have e0 : s₁.heap = h0 := by rw [← hh, Bd.state]; rfl
  have N0 := Fr.nil n0
  have Zr : h0.size ≤ h0.size := Nat.le_refl _
  have pre0 : ∀ t, Steps p.tables e below (s₁.setTop (mkF m 0 #[.val (.ref tt), .val (.int 2)] [])) t → Steps p.tables e below (s₁.setTop (entryFrame m #[(.ref tt), (.int 2)] 2)) t := fun t k => castTop (own_ef12c m tt) k
  obtain ⟨Tn1, Xn1, en1, stn1⟩ := getF X0 hx hZ hown (host := "") (Or.inl (own_W hw 41 rfl)) Via.refl e0 (own_ga B0 10 (by decide) (by decide)) (g := (mkF m 1 #[.val (.ref tt), .val (.int 2)] [(.ref tt)])) rfl rfl (hb hby own_d12_1)
  obtain ⟨cqk2, qk2, qk2'⟩ := (own_R_exa B0).cell
  obtain ⟨_, _, ⟨Tk2, Lk2, kk2, nk2⟩, -, Xk2, ⟨Lck2, hQk2, lk2, yk2, zk2⟩, stk2⟩ := Xn1.privateBack hx (y := (⟨"com/example/placewright/placewright/solver/RevisedSimplex", "prices", "(I)Z"⟩ : MethodName)) hown (mvT hZ (own_W hw 163 rfl)) (mvT hZ (own_W hw 164 rfl)) (own_selP hZ (own_W hw 6 rfl) (own_W hw 165 rfl) (own_W hw 164 rfl) (by decide)) (Cond.privateMethod_at (mvP hZ (own_W hw 165 rfl) (args := #[]))) (mvT hZ (own_W hw 166 rfl)) (by decide) (backOf (W := 0) (own_rm13c l Z a0 hw [] tt aA aK _ _ (aJ) h0 n0 (own_R_sz B0) B0 at_3_2 at_4_2 c11_hc19) hZ (own_W hw 166 rfl) (own_W hw 7 rfl) (by decide) (by decide)) (g := (mkF m 11 #[.val (.ref tt), .val (.int 2)] [(.int 2), (.ref tt)])) rfl (by rw [hml]; rfl) (Steps.refl _) (a := tt) (by rw [en1]; exact qk2) qk2' (argsL := [(.int 2)]) (rest := []) (lenOf own_pd5 rfl) rfl (by show 2 * 0 + _ ≤ _; exact Nat.le_of_eq rfl) (hb hby own_d12_11) (fun _ _ => ⟨rfl, en1, (by decide : 0 + 0 ≤ _), (by decide : 0 + 0 ≤ _)⟩)
  dsimp only [Pt.U, Pt.locs, Pt.cells, Pt.slots] at Xk2 lk2 yk2 zk2 stk2 hQk2
  replace lk2 := lk2.symm; replace yk2 := yk2.symm; replace zk2 := zk2.symm; subst lk2 yk2 zk2
  obtain ⟨rfl, Nk2q, Bk2⟩ := hQk2
  have Nk2 := Fr.app N0 Nk2q
  obtain ⟨fs, hr, hrun, hended, hW, hsame⟩ := Xk2.leave (v := none) (fun _ => rfl)
  refine ⟨_, _, pre0 _ (?_), hrun, hended, _, _, rfl, ?_, ⟨_, rfl⟩, hW, hsame.mono (by decide) (by decide)⟩
  · show Steps p.tables e below (s₁.setTop (mkF m 0 #[.val (.ref tt), .val (.int 2)] [])) _
    refine XS.aloadN X0.here hx rfl (hb hby own_d12_0) rfl rfl ?_
    refine stn1 _ ?_
    refine XS.iloadN Xn1.here hx rfl (hb hby own_d12_4) rfl ?_
    refine own_ldZ Xn1 hx hZ en1 (own_pk B0 10 (by decide)) 2 (by decide) (v := (.int 0)) at_10_2 (g := (mkF m 5 #[.val (.ref tt), .val (.int 2)] [(.int 2), (.ref (aA 10))])) rfl rfl (hb hby own_d12_5) _ ?_
    show Steps p.tables e below (Tn1.setTop (mkF m 6 #[.val (.ref tt), .val (.int 2)] [(.int 0)])) _
    refine XS.ifNo Xn1.here hx rfl (hb hby own_d12_6) rfl (XT.i0_ne_f (by decide : (0 : Int32) = (0 : Int32))) ?_
    refine XS.aloadN Xn1.here hx rfl (hb hby own_d12_9) rfl rfl ?_
    refine XS.iloadN Xn1.here hx rfl (hb hby own_d12_10) rfl ?_
    refine stk2.trans ?_
    show Steps p.tables e below (Tk2.setTop (mkF m 14 #[.val (.ref tt), .val (.int 2)] [(.int 0)])) _
    refine XS.ifYes Xk2.here hx rfl (pc0 := 14) (pc' := 41) rfl (hb hby own_d12_14) rfl (XT.i0_eq_t (by decide : (0 : Int32) = (0 : Int32))) (by decide) (by decide) ?_
    show Steps p.tables e below (Tk2.setTop (mkF m 41 #[.val (.ref tt), .val (.int 2)] [])) _
    exact Xk2.returnOut hx Bd.returns (hb hby own_d12_41) hr
  · show own_Q12c Z tt aA aK aF aV aJ h0 n0 _ Tk2.heap _
    exact ⟨rfl, Nk2, Bk2⟩
theorem own_ef10c (m : MethodId) (tt : Addr) (r1 : Addr) (r2 : Addr) (d3 : UInt64) : entryFrame m #[(.ref tt), (.ref r1), (.ref r2), (.double d3)] 7 = mkF m 0 #[.val (.ref tt), .val (.ref r1), .val (.ref r2), .val (.double d3), .second, .unset, .unset] [] := by first | (simp [entryFrame, mkF, argsToLocals, Value.category]; done) | rfl
def own_Q10c (Z : State) (tt : Addr) (aA : Nat → Addr) (aK : Nat → ClassId) (aF : Nat → Nat → Value) (aV : Nat → Value) (aJ : List own_e) (f_r1 : Nat → Value) (r1 : Addr) (k_r1 : ClassId) (f_r2 : Nat → Value) (r2 : Addr) (k_r2 : ClassId) (d3 : UInt64) (y2 : Addr) (k_y2 : ClassId) (y3 : Addr) (k_y3 : ClassId) (x_r2_0 : UInt64) (h0 : Heap) (n0 : Nat) (v : Option Value) (h : Heap) (L : List Loc) : Prop := ∃ (bn10 : Addr) (bn6 : Addr), v = some (.int 2) ∧ Fr n0 L ∧ own_R 15 Z n0 h tt aA aK (own_up2 (own_up2 (own_up2 (own_up2 (own_up2 (own_up2 (own_up2 aF 0 2 (.ref bn6)) 1 2 (.ref bn10)) 8 1 (.int 2)) 2 2 (.double d3)) 3 2 (.int (-1 : Int32))) 5 2 (.double 4607182418800017408)) 4 2 (.double 0)) (own_up aV 15 (.int 3)) (⟨bn10, k_r2, .double, 1, none⟩ :: ⟨bn6, k_r1, .int, 1, none⟩ :: ⟨r1, k_r1, .int, 1, some f_r1⟩ :: ⟨r2, k_r2, .double, 1, some f_r2⟩ :: ⟨y2, k_y2, .int, 2, none⟩ :: ⟨y3, k_y3, .double, 2, none⟩ :: aJ)
set_option maxRecDepth 65536 in
set_option maxHeartbeats 40000000 in
theorem own_rm10c (l : Launch) (Z : State) (a0 : Array Value) (hw : ∀ d ∈ tables_1, d.before a0 Z = true) (ws : List Jvm.Cond) (tt : Addr) (aA : Nat → Addr) (aK : Nat → ClassId) (aF : Nat → Nat → Value) (aV : Nat → Value) (aJ : List own_e) (f_r1 : Nat → Value) (r1 : Addr) (k_r1 : ClassId) (f_r2 : Nat → Value) (r2 : Addr) (k_r2 : ClassId) (d3 : UInt64) (y2 : Addr) (k_y2 : ClassId) (y3 : Addr) (k_y3 : ClassId) (x_r2_0 : UInt64) (h0 : Heap) (n0 : Nat) (Z0 : n0 ≤ h0.size) (B0 : own_R 15 Z n0 h0 tt aA aK aF aV (⟨r1, k_r1, .int, 1, some f_r1⟩ :: ⟨r2, k_r2, .double, 1, some f_r2⟩ :: ⟨y2, k_y2, .int, 2, none⟩ :: ⟨y3, k_y3, .double, 2, none⟩ :: aJ)) (vt_15 : aV 15 = (.int 2)) (et_r1_0 : f_r1 0 = (.int 1)) (et_r2_0 : f_r2 0 = (.double x_r2_0)) (at_6_1 : aF 6 1 = (.ref y2)) (at_7_1 : aF 7 1 = (.ref y3)) (at_8_1 : aF 8 1 = (.int 1)) (vt_19 : aV 19 = (.int 1)) (at_10_2 : aF 10 2 = (.int 0)) (c252_c11_hc19 : ¬ ((cmpValue (FP.dcmp (0 : UInt64) (13695778570484766357 : UInt64)) .g) < (0 : Int32))) :
    MetFree l (⟨"com/example/placewright/placewright/solver/RevisedSimplex", "addColumn", "([I[DD)I"⟩ : MethodName) (head1 (Jvm.Cond.code (⟨"com/example/placewright/placewright/solver/RevisedSimplex", "addColumn", "([I[DD)I"⟩ : MethodName) prog_29_method_2_code 7 (some .int) :: ws) ({ frames := 2, cells := 2, slots := 2, locals := 26 } : Room)) (fun a U => a = #[(.ref tt), (.ref r1), (.ref r2), (.double d3)] ∧ Z.Warmed39 U.vm ∧ U.heap = h0) (fun _ _ _ _ _ => True) (fun _ U o U' => ∃ v L, o = .returned v ∧ own_Q10c Z tt aA aK aF aV aJ f_r1 r1 k_r1 f_r2 r2 k_r2 d3 y2 k_y2 y3 k_y3 x_r2_0 h0 n0 v U'.heap L ∧ FrameEnd U o U' L ({ frames := 2, cells := 2, slots := 2, locals := 26 } : Room).cells ({ frames := 2, cells := 2, slots := 2, locals := 26 } : Room).slots) := by
  refine MetFree.of_bodySF (plainFor_of_name own_pn4) hisR ?_
  intro p e s m args below meth c s₁ Bd hml0 hP hK
  obtain ⟨rfl, hZ, hh⟩ := hP
  have hx := Bd.exec
  have hby := Bd.bytes
  have hml : c.maxLocals = 7 := hml0
  have hown : s.vm.findClass "com/example/placewright/placewright/solver/RevisedSimplex" = some m.cls := findClass_of_methodNamed Bd.named
  have hnm := (name_of_methodNamed Bd.named Bd.method).1
  have X0 : Stand p l e ({ frames := 2, cells := 2, slots := 2, locals := 26 } : Room) s m #[(.ref tt), (.ref r1), (.ref r2), (.double d3)] below meth c s₁ [] 0 0 := Stand.of_body Bd
  have e0 : s₁.heap = h0 := by rw [← hh, Bd.state]; rfl
  have N0 := Fr.nil n0
  have Zr : h0.size ≤ h0.size := Nat.le_refl _
  have pre0 : ∀ t, Steps p.tables e below (s₁.setTop (mkF m 0 #[.val (.ref tt), .val (.ref r1), .val (.ref r2), .val (.double d3), .second, .unset, .unset] [])) t → Steps p.tables e below (s₁.setTop (entryFrame m #[(.ref tt), (.ref r1), (.ref r2), (.double d3)] 7)) t := fun t k => castTop (own_ef10c m tt r1 r2 d3) k
  obtain ⟨Tn1, Xn1, en1, stn1⟩ := getF X0 hx hZ hown (host := "") (Or.inl (own_W hw 142 rfl)) Via.refl e0 (own_gs (v := (.int 2)) B0 15 (by decide) vt_15) (g := (mkF m 1 (own_L30 tt r1 r2 d3) [(.ref tt)])) rfl rfl (hb hby own_d10_1)
  obtain ⟨Tn2, Xn2, en2, stn2⟩ := getF Xn1 hx hZ hown (host := "") (Or.inl (own_W hw 23 rfl)) Via.refl en1 (own_ga B0 2 (by decide) (by decide)) (g := (mkF m 5 (own_L30 tt r1 r2 d3) [(.ref tt), (.int 2)])) rfl rfl (hb hby own_d10_5)
  obtain ⟨Tn3, Xn3, en3, stn3⟩ := getF Xn2 hx hZ hown (host := "") (Or.inl (own_W hw 142 rfl)) Via.refl en2 (own_gs (v := (.int 2)) B0 15 (by decide) vt_15) (g := (mkF m 132 (own_L30 tt r1 r2 d3) [(.ref tt), (.ref tt)])) rfl rfl (hb hby own_d10_132)
  obtain ⟨Tn4, hn4, Ln4, Xn4, en4, Bn4, Nn4, stn4⟩ := own_pu Xn3 hx hZ hown 15 (own_W hw 142 rfl) en3 B0 N0 (own_sS hw) (by decide) (by decide) (Or.inl (own_W hw 143 rfl)) (own_W hw 6 rfl) (v' := (.int 3)) rfl rfl (g := (mkF m 138 (own_L30 tt r1 r2 d3) [(.int 3), (.ref tt), (.int 2)])) rfl rfl (hb hby own_d10_138)
  obtain ⟨Tn5, Xn5, en5, stn5⟩ := getF Xn4 hx hZ hown (host := "") (Or.inl (own_W hw 16 rfl)) Via.refl en4 (own_ga Bn4 0 (by decide) (by decide)) (g := (mkF m 144 (own_L68 tt r1 r2 d3) [(.ref tt)])) rfl rfl (hb hby own_d10_144)
  obtain ⟨Tn6, hn6, bn6, Xn6, en6, Bn6, stn6⟩ := own_cl Xn5 hx hZ hown (own_W hw 144 rfl) (own_W hw 145 rfl) (own_W hw 149 rfl) (own_W hw 147 rfl) (own_W hw 148 rfl) (own_W hw 150 rfl) en5 Bn4 0 rfl rfl (fun _ => trivial) (g := (mkF m 150 (own_L68 tt r1 r2 d3) [(.ref r1), (.int 2), (.ref (aA 0))])) rfl (by rw [hml]; rfl) rfl (hb hby own_d10_150) (by decide) (W := 2) (cap := 1) (by show 2 * 0 + _ ≤ _; exact Nat.le_of_eq rfl) (by decide) (by decide) (by decide) (by decide)
  obtain ⟨Tn7, Xn7, en7, stn7⟩ := own_ca Xn6 hx hZ hown (own_W hw 14 rfl) en6 (own_en (m := 0) Bn6 rfl) rfl (g := (mkF m 153 (own_L68 tt r1 r2 d3) [(.ref bn6), (.int 2), (.ref (aA 0))])) rfl rfl (hb hby own_d10_153)
  obtain ⟨Tn8, hn8, Ln8, Xn8, en8, Bn8, Nn8, stn8⟩ := own_stR Xn7 hx hZ en7 Bn6 Nn4 0 2 0 (by decide) rfl (Or.inl ⟨rfl, rfl⟩) rfl (by decide) (g := (mkF m 156 (own_L68 tt r1 r2 d3) [(.ref bn6), (.int 2), (.ref (aA 0))])) rfl rfl (hb hby own_d10_156)
  obtain ⟨Tn9, Xn9, en9, stn9⟩ := getF Xn8 hx hZ hown (host := "") (Or.inl (own_W hw 20 rfl)) Via.refl en8 (own_ga Bn8 1 (by decide) (by decide)) (g := (mkF m 158 (own_L68 tt r1 r2 d3) [(.ref tt)])) rfl rfl (hb hby own_d10_158)
  obtain ⟨Tn10, hn10, bn10, Xn10, en10, Bn10, stn10⟩ := own_cl Xn9 hx hZ hown (own_W hw 151 rfl) (own_W hw 152 rfl) (own_W hw 149 rfl) (own_W hw 147 rfl) (own_W hw 153 rfl) (own_W hw 154 rfl) en9 Bn8 2 rfl rfl (fun _ => trivial) (g := (mkF m 164 (own_L68 tt r1 r2 d3) [(.ref r2), (.int 2), (.ref (aA 1))])) rfl (by rw [hml]; rfl) rfl (hb hby own_d10_164) (by decide) (W := 2) (cap := 1) (by show 2 * 0 + _ ≤ _; exact Nat.le_of_eq rfl) (by decide) (by decide) (by decide) (by decide)
  obtain ⟨Tn11, Xn11, en11, stn11⟩ := own_ca Xn10 hx hZ hown (own_W hw 18 rfl) en10 (own_en (m := 0) Bn10 rfl) rfl (g := (mkF m 167 (own_L68 tt r1 r2 d3) [(.ref bn10), (.int 2), (.ref (aA 1))])) rfl rfl (hb hby own_d10_167)
  obtain ⟨Tn12, hn12, Ln12, Xn12, en12, Bn12, Nn12, stn12⟩ := own_stR Xn11 hx hZ en11 Bn10 Nn8 1 2 0 (by decide) rfl (Or.inr ⟨rfl, rfl⟩) rfl (by decide) (g := (mkF m 170 (own_L68 tt r1 r2 d3) [(.ref bn10), (.int 2), (.ref (aA 1))])) rfl rfl (hb hby own_d10_170)
  have B14 : own_R 15 Z n0 hn12 tt aA aK _ _ (⟨y2, k_y2, .int, 2, none⟩ :: ⟨y3, k_y3, .double, 2, none⟩ :: ⟨bn10, k_r2, .double, 1, none⟩ :: ⟨bn6, k_r1, .int, 1, none⟩ :: ⟨r1, k_r1, .int, 1, some f_r1⟩ :: ⟨r2, k_r2, .double, 1, some f_r2⟩ :: aJ) := own_R_pick Bn12 6 [4, 5, 0, 1, 2, 3] trivial (by decide) (by decide)
  obtain ⟨cqk13, qk13, qk13'⟩ := (own_R_exa B14).cell
  obtain ⟨_, _, ⟨Tk13, Lk13, kk13, nk13⟩, -, Xk13, ⟨Lck13, hQk13, lk13, yk13, zk13⟩, stk13⟩ := Xn12.privateBack hx (y := (⟨"com/example/placewright/placewright/solver/RevisedSimplex", "addToRow", "(IID)V"⟩ : MethodName)) hown (mvT hZ (own_W hw 155 rfl)) (mvT hZ (own_W hw 156 rfl)) (own_selP hZ (own_W hw 6 rfl) (own_W hw 157 rfl) (own_W hw 156 rfl) (by decide)) (Cond.privateMethod_at (mvP hZ (own_W hw 157 rfl) (args := #[]))) (mvT hZ (own_W hw 158 rfl)) (by decide) (backOf (W := 0) (own_rm11d l Z a0 hw [] tt aA aK _ _ (⟨bn10, k_r2, .double, 1, none⟩ :: ⟨bn6, k_r1, .int, 1, none⟩ :: ⟨r1, k_r1, .int, 1, some f_r1⟩ :: ⟨r2, k_r2, .double, 1, some f_r2⟩ :: aJ) x_r2_0 y2 k_y2 y3 k_y3 hn12 n0 (own_R_sz B14) B14 at_8_1 at_6_1 at_7_1) hZ (own_W hw 158 rfl) (own_W hw 7 rfl) (by decide) (by decide)) (g := (mkF m 192 (own_L69 tt r1 r2 d3) [(.double x_r2_0), (.int 2), (.int 1), (.ref tt)])) rfl (by rw [hml]; rfl) (Steps.refl _) (a := tt) (by rw [en12]; exact qk13) qk13' (argsL := [(.int 1), (.int 2), (.double x_r2_0)]) (rest := []) (lenOf own_pd4 rfl) rfl (by show 2 * 0 + _ ≤ _; exact Nat.le_of_eq rfl) (hb hby own_d10_192) (fun _ _ => ⟨rfl, en12, (by decide : 2 + 0 ≤ _), (by decide : 2 + 0 ≤ _)⟩)
  dsimp only [Pt.U, Pt.locs, Pt.cells, Pt.slots] at Xk13 lk13 yk13 zk13 stk13 hQk13
  replace lk13 := lk13.symm; replace yk13 := yk13.symm; replace zk13 := zk13.symm; subst lk13 yk13 zk13
  obtain ⟨rfl, Nk13q, Bk13⟩ := hQk13
  have Nk13 := Fr.app Nn12 Nk13q
  obtain ⟨Tn15, Xn15, en15, stn15⟩ := getF Xk13 hx hZ hown (host := "") (Or.inl (own_W hw 23 rfl)) Via.refl rfl (own_ga Bk13 2 (by decide) (by decide)) (g := (mkF m 202 (own_L71 tt r1 r2 d3) [(.ref tt)])) rfl rfl (hb hby own_d10_202)
  obtain ⟨Tn16, hn16, Ln16, Xn16, en16, Bn16, Nn16, stn16⟩ := own_stD Xn15 hx hZ en15 Bk13 Nk13 2 2 (by decide) rfl (by decide) (g := (mkF m 208 (own_L71 tt r1 r2 d3) [(.double d3), (.int 2), (.ref (aA 2))])) rfl rfl (hb hby own_d10_208)
  obtain ⟨Tn17, Xn17, en17, stn17⟩ := getF Xn16 hx hZ hown (host := "") (Or.inl (own_W hw 26 rfl)) Via.refl en16 (own_ga Bn16 3 (by decide) (by decide)) (g := (mkF m 210 (own_L71 tt r1 r2 d3) [(.ref tt)])) rfl rfl (hb hby own_d10_210)
  obtain ⟨Tn18, hn18, Ln18, Xn18, en18, Bn18, Nn18, stn18⟩ := own_stI Xn17 hx hZ en17 Bn16 Nn16 3 2 (by decide) rfl (by decide) (g := (mkF m 216 (own_L71 tt r1 r2 d3) [(.int (-1 : Int32)), (.int 2), (.ref (aA 3))])) rfl rfl (hb hby own_d10_216)
  obtain ⟨Tn19, Xn19, en19, stn19⟩ := getF Xn18 hx hZ hown (host := "") (Or.inl (own_W hw 30 rfl)) Via.refl en18 (own_ga Bn18 5 (by decide) (by decide)) (g := (mkF m 218 (own_L71 tt r1 r2 d3) [(.ref tt)])) rfl rfl (hb hby own_d10_218)
  obtain ⟨Tn20, hn20, Ln20, Xn20, en20, Bn20, Nn20, stn20⟩ := own_stD Xn19 hx hZ en19 Bn18 Nn18 5 2 (by decide) rfl (by decide) (g := (mkF m 224 (own_L71 tt r1 r2 d3) [(.double 4607182418800017408), (.int 2), (.ref (aA 5))])) rfl rfl (hb hby own_d10_224)
  obtain ⟨Tn21, Xn21, en21, stn21⟩ := getF Xn20 hx hZ hown (host := "") (Or.inl (own_W hw 28 rfl)) Via.refl en20 (own_ga Bn20 4 (by decide) (by decide)) (g := (mkF m 226 (own_L71 tt r1 r2 d3) [(.ref tt)])) rfl rfl (hb hby own_d10_226)
  obtain ⟨Tn22, Xn22, en22, stn22⟩ := getF Xn21 hx hZ hown (host := "") (Or.inl (own_W hw 135 rfl)) Via.refl en21 (own_gs (v := (.int 1)) Bn20 19 (by decide) vt_19) (g := (mkF m 232 (own_L71 tt r1 r2 d3) [(.ref tt), (.int 2), (.ref (aA 4))])) rfl rfl (hb hby own_d10_232)
  obtain ⟨Tn23, hn23, Ln23, Xn23, en23, Bn23, Nn23, stn23⟩ := own_stD Xn22 hx hZ en22 Bn20 Nn20 4 2 (by decide) rfl (by decide) (g := (mkF m 248 (own_L71 tt r1 r2 d3) [(.double 0), (.int 2), (.ref (aA 4))])) rfl rfl (hb hby own_d10_248)
  obtain ⟨cqk24, qk24, qk24'⟩ := (own_R_exa Bn23).cell
  obtain ⟨_, _, ⟨Tk24, Lk24, kk24, nk24⟩, -, Xk24, ⟨Lck24, hQk24, lk24, yk24, zk24⟩, stk24⟩ := Xn23.privateBack hx (y := (⟨"com/example/placewright/placewright/solver/RevisedSimplex", "list", "(I)V"⟩ : MethodName)) hown (mvT hZ (own_W hw 159 rfl)) (mvT hZ (own_W hw 160 rfl)) (own_selP hZ (own_W hw 6 rfl) (own_W hw 161 rfl) (own_W hw 160 rfl) (by decide)) (Cond.privateMethod_at (mvP hZ (own_W hw 161 rfl) (args := #[]))) (mvT hZ (own_W hw 162 rfl)) (by decide) (backOf (W := 0) (own_rm12c l Z a0 hw [] tt aA aK _ _ (⟨y2, k_y2, .int, 2, none⟩ :: ⟨y3, k_y3, .double, 2, none⟩ :: ⟨bn10, k_r2, .double, 1, none⟩ :: ⟨bn6, k_r1, .int, 1, none⟩ :: ⟨r1, k_r1, .int, 1, some f_r1⟩ :: ⟨r2, k_r2, .double, 1, some f_r2⟩ :: aJ) hn23 n0 (own_R_sz Bn23) Bn23 at_10_2 rfl rfl c252_c11_hc19) hZ (own_W hw 162 rfl) (own_W hw 7 rfl) (by decide) (by decide)) (g := (mkF m 252 (own_L71 tt r1 r2 d3) [(.int 2), (.ref tt)])) rfl (by rw [hml]; rfl) (Steps.refl _) (a := tt) (by rw [en23]; exact qk24) qk24' (argsL := [(.int 2)]) (rest := []) (lenOf own_pd1 rfl) rfl (by show 2 * 0 + _ ≤ _; exact Nat.le_of_eq rfl) (hb hby own_d10_252) (fun _ _ => ⟨rfl, en23, (by decide : 2 + 0 ≤ _), (by decide : 2 + 0 ≤ _)⟩)
  dsimp only [Pt.U, Pt.locs, Pt.cells, Pt.slots] at Xk24 lk24 yk24 zk24 stk24 hQk24
  replace lk24 := lk24.symm; replace yk24 := yk24.symm; replace zk24 := zk24.symm; subst lk24 yk24 zk24
  obtain ⟨rfl, Nk24q, Bk24⟩ := hQk24
  have Nk24 := Fr.app Nn23 Nk24q
  obtain ⟨fs, hr, hrun, hended, hW, hsame⟩ := Xk24.leave (v := some (.int 2)) (fun h => by rw [Bd.returns] at h; cases h)
  refine ⟨_, _, pre0 _ (?_), hrun, hended, _, _, rfl, ?_, ⟨_, rfl⟩, hW, hsame.mono (by decide) (by decide)⟩
  · show Steps p.tables e below (s₁.setTop (mkF m 0 (own_L30 tt r1 r2 d3) [])) _
    refine XS.aloadN X0.here hx rfl (hb hby own_d10_0) rfl rfl ?_
    refine stn1 _ ?_
    refine XS.aloadN Xn1.here hx rfl (hb hby own_d10_4) rfl rfl ?_
    refine stn2 _ ?_
    show Steps p.tables e below (Tn2.setTop (mkF m 8 (own_L30 tt r1 r2 d3) [(.ref (aA 2)), (.int 2)])) _
    refine own_len Xn2 hx hZ en2 (own_pk B0 2 (by decide)) (g := (mkF m 8 (own_L30 tt r1 r2 d3) [(.ref (aA 2)), (.int 2)])) rfl rfl (hb hby own_d10_8) _ ?_
    refine XS.icmpYes Xn2.here hx rfl (pc0 := 9) (pc' := 130) rfl (hb hby own_d10_9) rfl (XT.ii_ne_t (by decide : ¬ ((2 : Int32) = (16 : Int32)))) (by decide) (by decide) ?_
    refine XS.aloadN Xn2.here hx rfl (hb hby own_d10_130) rfl rfl ?_
    refine XS.dup Xn2.here hx rfl (hb hby own_d10_131) rfl rfl ?_
    refine stn3 _ ?_
    show Steps p.tables e below (Tn3.setTop (mkF m 135 (own_L30 tt r1 r2 d3) [(.int 2), (.ref tt)])) _
    refine XT.dupX1 Xn3.here hx rfl (hb hby own_d10_135) rfl rfl rfl ?_
    refine XS.iconst Xn3.here hx rfl (hb hby own_d10_136) ?_
    refine XS.iadd Xn3.here hx rfl (hb hby own_d10_137) rfl ?_
    show Steps p.tables e below (Tn3.setTop (mkF m 138 (own_L30 tt r1 r2 d3) [(.int 3), (.ref tt), (.int 2)])) _
    refine stn4 _ ?_
    refine XS.istore Xn4.here hx rfl (hb hby own_d10_141) rfl (l' := (own_L68 tt r1 r2 d3)) rfl ?_
    refine XS.aloadN Xn4.here hx rfl (hb hby own_d10_143) rfl rfl ?_
    refine stn5 _ ?_
    show Steps p.tables e below (Tn5.setTop (mkF m 147 (own_L68 tt r1 r2 d3) [(.ref (aA 0))])) _
    refine XS.iload Xn5.here hx rfl (hb hby own_d10_147) rfl ?_
    refine XS.aloadN Xn5.here hx rfl (hb hby own_d10_149) rfl rfl ?_
    refine stn6 _ ?_
    show Steps p.tables e below (Tn6.setTop (mkF m 153 (own_L68 tt r1 r2 d3) [(.ref bn6), (.int 2), (.ref (aA 0))])) _
    refine stn7 _ ?_
    refine stn8 _ ?_
    refine XS.aloadN Xn8.here hx rfl (hb hby own_d10_157) rfl rfl ?_
    refine stn9 _ ?_
    show Steps p.tables e below (Tn9.setTop (mkF m 161 (own_L68 tt r1 r2 d3) [(.ref (aA 1))])) _
    refine XS.iload Xn9.here hx rfl (hb hby own_d10_161) rfl ?_
    refine XS.aloadN Xn9.here hx rfl (hb hby own_d10_163) rfl rfl ?_
    refine stn10 _ ?_
    show Steps p.tables e below (Tn10.setTop (mkF m 167 (own_L68 tt r1 r2 d3) [(.ref bn10), (.int 2), (.ref (aA 1))])) _
    refine stn11 _ ?_
    refine stn12 _ ?_
    refine XS.iconst Xn12.here hx rfl (hb hby own_d10_171) ?_
    refine XS.istore Xn12.here hx rfl (hb hby own_d10_172) rfl (l' := (own_L69 tt r1 r2 d3)) rfl ?_
    refine XS.iload Xn12.here hx rfl (hb hby own_d10_174) rfl ?_
    refine XS.aloadN Xn12.here hx rfl (hb hby own_d10_176) rfl rfl ?_
    refine own_len Xn12 hx hZ en12 (own_en (m := 2) Bn12 rfl) (g := (mkF m 177 (own_L69 tt r1 r2 d3) [(.ref r1), (.int 0)])) rfl rfl (hb hby own_d10_177) _ ?_
    show Steps p.tables e below (Tn12.setTop (mkF m 178 (own_L69 tt r1 r2 d3) [(.int 1), (.int 0)])) _
    refine XS.icmpNo Xn12.here hx rfl (hb hby own_d10_178) rfl (XT.ii_ge_f (by decide : (0 : Int32) < (1 : Int32))) ?_
    refine XS.aloadN Xn12.here hx rfl (hb hby own_d10_181) rfl rfl ?_
    refine XS.aloadN Xn12.here hx rfl (hb hby own_d10_182) rfl rfl ?_
    refine XS.iload Xn12.here hx rfl (hb hby own_d10_183) rfl ?_
    refine own_ldI Xn12 hx hZ en12 (own_en (m := 2) Bn12 rfl) 0 (by decide) (v := (.int 1)) et_r1_0 (g := (mkF m 185 (own_L69 tt r1 r2 d3) [(.int 0), (.ref r1), (.ref tt)])) rfl rfl (hb hby own_d10_185) _ ?_
    show Steps p.tables e below (Tn12.setTop (mkF m 186 (own_L69 tt r1 r2 d3) [(.int 1), (.ref tt)])) _
    refine XS.iload Xn12.here hx rfl (hb hby own_d10_186) rfl ?_
    refine XS.aloadN Xn12.here hx rfl (hb hby own_d10_188) rfl rfl ?_
    refine XS.iload Xn12.here hx rfl (hb hby own_d10_189) rfl ?_
    refine own_ldD Xn12 hx hZ en12 (own_en (m := 3) Bn12 rfl) 0 (by decide) (v := (.double x_r2_0)) et_r2_0 (g := (mkF m 191 (own_L69 tt r1 r2 d3) [(.int 0), (.ref r2), (.int 2), (.int 1), (.ref tt)])) rfl rfl (hb hby own_d10_191) _ ?_
    show Steps p.tables e below (Tn12.setTop (mkF m 192 (own_L69 tt r1 r2 d3) [(.double x_r2_0), (.int 2), (.int 1), (.ref tt)])) _
    refine stk13.trans ?_
    refine XS.iinc Xk13.here hx rfl (hb hby own_d10_195) rfl (l' := (own_L71 tt r1 r2 d3)) rfl ?_
    refine XS.goto Xk13.here hx rfl (pc0 := 198) (pc' := 174) rfl (hb hby own_d10_198) (by decide) (by decide) ?_
    refine XS.iload Xk13.here hx rfl (hb hby own_d10_174) rfl ?_
    refine XS.aloadN Xk13.here hx rfl (hb hby own_d10_176) rfl rfl ?_
    refine own_len Xk13 hx hZ rfl (own_en (m := 4) Bk13 rfl) (g := (mkF m 177 (own_L71 tt r1 r2 d3) [(.ref r1), (.int 1)])) rfl rfl (hb hby own_d10_177) _ ?_
    show Steps p.tables e below (Tk13.setTop (mkF m 178 (own_L71 tt r1 r2 d3) [(.int 1), (.int 1)])) _
    refine XS.icmpYes Xk13.here hx rfl (pc0 := 178) (pc' := 201) rfl (hb hby own_d10_178) rfl (XT.ii_ge_t (by decide : ¬ ((1 : Int32) < (1 : Int32)))) (by decide) (by decide) ?_
    refine XS.aloadN Xk13.here hx rfl (hb hby own_d10_201) rfl rfl ?_
    refine stn15 _ ?_
    show Steps p.tables e below (Tn15.setTop (mkF m 205 (own_L71 tt r1 r2 d3) [(.ref (aA 2))])) _
    refine XS.iload Xn15.here hx rfl (hb hby own_d10_205) rfl ?_
    refine XS.dloadN Xn15.here hx rfl (hb hby own_d10_207) rfl ?_
    refine stn16 _ ?_
    show Steps p.tables e below (Tn16.setTop (mkF m 209 (own_L71 tt r1 r2 d3) [])) _
    refine XS.aloadN Xn16.here hx rfl (hb hby own_d10_209) rfl rfl ?_
    refine stn17 _ ?_
    refine XS.iload Xn17.here hx rfl (hb hby own_d10_213) rfl ?_
    refine XS.iconst Xn17.here hx rfl (hb hby own_d10_215) ?_
    refine stn18 _ ?_
    show Steps p.tables e below (Tn18.setTop (mkF m 217 (own_L71 tt r1 r2 d3) [])) _
    refine XS.aloadN Xn18.here hx rfl (hb hby own_d10_217) rfl rfl ?_
    refine stn19 _ ?_
    refine XS.iload Xn19.here hx rfl (hb hby own_d10_221) rfl ?_
    refine XS.dconst1 Xn19.here hx rfl (hb hby own_d10_223) (v := (4607182418800017408 : UInt64)) (by decide +kernel) ?_
    show Steps p.tables e below (Tn19.setTop (mkF m 224 (own_L71 tt r1 r2 d3) [(.double 4607182418800017408), (.int 2), (.ref (aA 5))])) _
    refine stn20 _ ?_
    refine XS.aloadN Xn20.here hx rfl (hb hby own_d10_225) rfl rfl ?_
    refine stn21 _ ?_
    show Steps p.tables e below (Tn21.setTop (mkF m 229 (own_L71 tt r1 r2 d3) [(.ref (aA 4))])) _
    refine XS.iload Xn21.here hx rfl (hb hby own_d10_229) rfl ?_
    refine XS.aloadN Xn21.here hx rfl (hb hby own_d10_231) rfl rfl ?_
    refine stn22 _ ?_
    show Steps p.tables e below (Tn22.setTop (mkF m 235 (own_L71 tt r1 r2 d3) [(.int 1), (.int 2), (.ref (aA 4))])) _
    refine XS.ifNo Xn22.here hx rfl (hb hby own_d10_235) rfl (XT.i0_eq_f (by decide : ¬ ((1 : Int32) = (0 : Int32)))) ?_
    refine XS.dconst0 Xn22.here hx rfl (hb hby own_d10_238) (v := (0 : UInt64)) (by decide +kernel) ?_
    refine XS.goto Xn22.here hx rfl (pc0 := 239) (pc' := 248) rfl (hb hby own_d10_239) (by decide) (by decide) ?_
    refine stn23 _ ?_
    show Steps p.tables e below (Tn23.setTop (mkF m 249 (own_L71 tt r1 r2 d3) [])) _
    refine XS.aloadN Xn23.here hx rfl (hb hby own_d10_249) rfl rfl ?_
    refine XS.iload Xn23.here hx rfl (hb hby own_d10_250) rfl ?_
    refine stk24.trans ?_
    show Steps p.tables e below (Tk24.setTop (mkF m 255 (own_L71 tt r1 r2 d3) [])) _
    refine XS.iload Xk24.here hx rfl (hb hby own_d10_255) rfl ?_
    show Steps p.tables e below (Tk24.setTop (mkF m 257 (own_L71 tt r1 r2 d3) [(.int 2)])) _
    exact retI Xk24 hx Bd.returns (hb hby own_d10_257) hr
  · show own_Q10c Z tt aA aK aF aV aJ f_r1 r1 k_r1 f_r2 r2 k_r2 d3 y2 k_y2 y3 k_y3 x_r2_0 h0 n0 _ Tk24.heap _
    exact ⟨bn10, bn6, rfl, Nk24, (own_R_pick Bk24 6 [2, 3, 4, 5, 0, 1] trivial (by decide) (by decide))⟩
def own_L72 (x0 : Addr) (x1 : UInt64) (x2 : Addr) (x3 : Addr) (x4 : UInt64) (x5 : UInt64) (x6 : UInt64) (x7 : UInt64) : Array Slot := #[.val (.ref x0), .val (.double x1), .second, .val (.ref x2), .val (.ref x3), .val (.double x4), .second, .val (.double x5), .second, .val (.int 1), .val (.double x6), .second, .val (.double x7), .second, .val (.int 2)]
theorem own_d8_71 : decode prog_29_method_3_code 71 = .ok (.aload_n 3, 1) := by decide +kernel
theorem own_d8_72 : decode prog_29_method_3_code 72 = .ok (.iload 10, 2) := by decide +kernel
theorem own_d8_74 : decode prog_29_method_3_code 74 = .ok (.iaload, 1) := by decide +kernel
theorem own_d8_75 : decode prog_29_method_3_code 75 = .ok (.istore 11, 2) := by decide +kernel
theorem own_d8_77 : decode prog_29_method_3_code 77 = .ok (.aload_n 0, 1) := by decide +kernel
theorem own_d8_78 : decode prog_29_method_3_code 78 = .ok (.getfield 11, 3) := by decide +kernel
theorem own_d8_81 : decode prog_29_method_3_code 81 = .ok (.iload 11, 2) := by decide +kernel
theorem own_d8_83 : decode prog_29_method_3_code 83 = .ok (.aload_n 0, 1) := by decide +kernel
theorem own_d8_84 : decode prog_29_method_3_code 84 = .ok (.getfield 11, 3) := by decide +kernel
theorem own_d8_87 : decode prog_29_method_3_code 87 = .ok (.iload 11, 2) := by decide +kernel
theorem own_d8_89 : decode prog_29_method_3_code 89 = .ok (.aaload, 1) := by decide +kernel
theorem own_d8_90 : decode prog_29_method_3_code 90 = .ok (.aload_n 0, 1) := by decide +kernel
theorem own_d8_91 : decode prog_29_method_3_code 91 = .ok (.getfield 11, 3) := by decide +kernel
theorem own_d8_94 : decode prog_29_method_3_code 94 = .ok (.iload 11, 2) := by decide +kernel
theorem own_d8_96 : decode prog_29_method_3_code 96 = .ok (.aaload, 1) := by decide +kernel
theorem own_d8_97 : decode prog_29_method_3_code 97 = .ok (.arraylength, 1) := by decide +kernel
theorem own_d8_98 : decode prog_29_method_3_code 98 = .ok (.iconst 1, 1) := by decide +kernel
theorem own_d8_99 : decode prog_29_method_3_code 99 = .ok (.iadd, 1) := by decide +kernel
theorem own_d8_100 : decode prog_29_method_3_code 100 = .ok (.invokestatic 90, 3) := by decide +kernel
theorem own_d8_103 : decode prog_29_method_3_code 103 = .ok (.aastore, 1) := by decide +kernel
theorem own_d8_104 : decode prog_29_method_3_code 104 = .ok (.aload_n 0, 1) := by decide +kernel
theorem own_d8_105 : decode prog_29_method_3_code 105 = .ok (.getfield 17, 3) := by decide +kernel
theorem own_d8_108 : decode prog_29_method_3_code 108 = .ok (.iload 11, 2) := by decide +kernel
theorem own_d8_110 : decode prog_29_method_3_code 110 = .ok (.aload_n 0, 1) := by decide +kernel
theorem own_d8_111 : decode prog_29_method_3_code 111 = .ok (.getfield 17, 3) := by decide +kernel
theorem own_d8_114 : decode prog_29_method_3_code 114 = .ok (.iload 11, 2) := by decide +kernel
theorem own_d8_116 : decode prog_29_method_3_code 116 = .ok (.aaload, 1) := by decide +kernel
theorem own_d8_117 : decode prog_29_method_3_code 117 = .ok (.aload_n 0, 1) := by decide +kernel
theorem own_d8_118 : decode prog_29_method_3_code 118 = .ok (.getfield 17, 3) := by decide +kernel
theorem own_d8_121 : decode prog_29_method_3_code 121 = .ok (.iload 11, 2) := by decide +kernel
theorem own_d8_123 : decode prog_29_method_3_code 123 = .ok (.aaload, 1) := by decide +kernel
theorem own_d8_124 : decode prog_29_method_3_code 124 = .ok (.arraylength, 1) := by decide +kernel
theorem own_d8_125 : decode prog_29_method_3_code 125 = .ok (.iconst 1, 1) := by decide +kernel
theorem own_d8_126 : decode prog_29_method_3_code 126 = .ok (.iadd, 1) := by decide +kernel
theorem own_d8_127 : decode prog_29_method_3_code 127 = .ok (.invokestatic 87, 3) := by decide +kernel
theorem own_d8_130 : decode prog_29_method_3_code 130 = .ok (.aastore, 1) := by decide +kernel
theorem own_d8_131 : decode prog_29_method_3_code 131 = .ok (.aload_n 0, 1) := by decide +kernel
theorem own_d8_132 : decode prog_29_method_3_code 132 = .ok (.getfield 11, 3) := by decide +kernel
theorem own_d8_135 : decode prog_29_method_3_code 135 = .ok (.iload 11, 2) := by decide +kernel
theorem own_d8_137 : decode prog_29_method_3_code 137 = .ok (.aaload, 1) := by decide +kernel
theorem own_d8_138 : decode prog_29_method_3_code 138 = .ok (.aload_n 0, 1) := by decide +kernel
theorem own_d8_139 : decode prog_29_method_3_code 139 = .ok (.getfield 11, 3) := by decide +kernel
theorem own_d8_142 : decode prog_29_method_3_code 142 = .ok (.iload 11, 2) := by decide +kernel
theorem own_d8_144 : decode prog_29_method_3_code 144 = .ok (.aaload, 1) := by decide +kernel
theorem own_d8_145 : decode prog_29_method_3_code 145 = .ok (.arraylength, 1) := by decide +kernel
theorem own_d8_146 : decode prog_29_method_3_code 146 = .ok (.iconst 1, 1) := by decide +kernel
theorem own_d8_147 : decode prog_29_method_3_code 147 = .ok (.isub, 1) := by decide +kernel
theorem own_d8_148 : decode prog_29_method_3_code 148 = .ok (.iload 9, 2) := by decide +kernel
theorem own_d8_150 : decode prog_29_method_3_code 150 = .ok (.iastore, 1) := by decide +kernel
theorem own_d8_151 : decode prog_29_method_3_code 151 = .ok (.aload_n 0, 1) := by decide +kernel
theorem own_d8_152 : decode prog_29_method_3_code 152 = .ok (.getfield 17, 3) := by decide +kernel
theorem own_d8_155 : decode prog_29_method_3_code 155 = .ok (.iload 11, 2) := by decide +kernel
theorem own_d8_157 : decode prog_29_method_3_code 157 = .ok (.aaload, 1) := by decide +kernel
theorem own_d8_158 : decode prog_29_method_3_code 158 = .ok (.aload_n 0, 1) := by decide +kernel
theorem own_d8_159 : decode prog_29_method_3_code 159 = .ok (.getfield 17, 3) := by decide +kernel
theorem own_d8_162 : decode prog_29_method_3_code 162 = .ok (.iload 11, 2) := by decide +kernel
theorem own_d8_164 : decode prog_29_method_3_code 164 = .ok (.aaload, 1) := by decide +kernel
theorem own_d8_165 : decode prog_29_method_3_code 165 = .ok (.arraylength, 1) := by decide +kernel
theorem own_d8_166 : decode prog_29_method_3_code 166 = .ok (.iconst 1, 1) := by decide +kernel
theorem own_d8_167 : decode prog_29_method_3_code 167 = .ok (.isub, 1) := by decide +kernel
theorem own_d8_168 : decode prog_29_method_3_code 168 = .ok (.aload 4, 2) := by decide +kernel
theorem own_d8_170 : decode prog_29_method_3_code 170 = .ok (.iload 10, 2) := by decide +kernel
theorem own_d8_172 : decode prog_29_method_3_code 172 = .ok (.daload, 1) := by decide +kernel
theorem own_d8_173 : decode prog_29_method_3_code 173 = .ok (.dastore, 1) := by decide +kernel
theorem own_d8_174 : decode prog_29_method_3_code 174 = .ok (.aload_n 0, 1) := by decide +kernel
theorem own_d8_175 : decode prog_29_method_3_code 175 = .ok (.iload 9, 2) := by decide +kernel
theorem own_d8_177 : decode prog_29_method_3_code 177 = .ok (.iload 11, 2) := by decide +kernel
theorem own_d8_179 : decode prog_29_method_3_code 179 = .ok (.aload 4, 2) := by decide +kernel
theorem own_d8_181 : decode prog_29_method_3_code 181 = .ok (.iload 10, 2) := by decide +kernel
theorem own_d8_183 : decode prog_29_method_3_code 183 = .ok (.daload, 1) := by decide +kernel
theorem own_d8_184 : decode prog_29_method_3_code 184 = .ok (.invokevirtual 101, 3) := by decide +kernel
theorem own_d8_187 : decode prog_29_method_3_code 187 = .ok (.iinc 10 1, 3) := by decide +kernel
theorem own_d8_190 : decode prog_29_method_3_code 190 = .ok (.goto (-126), 3) := by decide +kernel
theorem own_d8_206 : decode prog_29_method_3_code 206 = .ok (.aload_n 0, 1) := by decide +kernel
theorem own_d8_207 : decode prog_29_method_3_code 207 = .ok (.getfield 24, 3) := by decide +kernel
theorem own_d8_210 : decode prog_29_method_3_code 210 = .ok (.aload_n 3, 1) := by decide +kernel
theorem own_d8_211 : decode prog_29_method_3_code 211 = .ok (.iload 12, 2) := by decide +kernel
theorem own_d8_213 : decode prog_29_method_3_code 213 = .ok (.iaload, 1) := by decide +kernel
theorem own_d8_214 : decode prog_29_method_3_code 214 = .ok (.iaload, 1) := by decide +kernel
theorem own_d8_215 : decode prog_29_method_3_code 215 = .ok (.istore 13, 2) := by decide +kernel
theorem own_d8_217 : decode prog_29_method_3_code 217 = .ok (.iload 13, 2) := by decide +kernel
theorem own_d8_219 : decode prog_29_method_3_code 219 = .ok (.ifCond .lt 21, 3) := by decide +kernel
theorem own_d8_222 : decode prog_29_method_3_code 222 = .ok (.dload 10, 2) := by decide +kernel
theorem own_d8_224 : decode prog_29_method_3_code 224 = .ok (.aload 4, 2) := by decide +kernel
theorem own_d8_226 : decode prog_29_method_3_code 226 = .ok (.iload 12, 2) := by decide +kernel
theorem own_d8_228 : decode prog_29_method_3_code 228 = .ok (.daload, 1) := by decide +kernel
theorem own_d8_229 : decode prog_29_method_3_code 229 = .ok (.aload_n 0, 1) := by decide +kernel
theorem own_d8_230 : decode prog_29_method_3_code 230 = .ok (.getfield 59, 3) := by decide +kernel
theorem own_d8_233 : decode prog_29_method_3_code 233 = .ok (.iload 13, 2) := by decide +kernel
theorem own_d8_235 : decode prog_29_method_3_code 235 = .ok (.daload, 1) := by decide +kernel
theorem own_d8_236 : decode prog_29_method_3_code 236 = .ok (.dmul, 1) := by decide +kernel
theorem own_d8_237 : decode prog_29_method_3_code 237 = .ok (.dadd, 1) := by decide +kernel
theorem own_d8_238 : decode prog_29_method_3_code 238 = .ok (.dstore 10, 2) := by decide +kernel
theorem own_d8_240 : decode prog_29_method_3_code 240 = .ok (.iinc 12 1, 3) := by decide +kernel
theorem own_d8_243 : decode prog_29_method_3_code 243 = .ok (.goto (-44), 3) := by decide +kernel
def own_v8b_0 (x_r3_0 : UInt64) (x_13_0 : UInt64) : UInt64 := (FP.dadd (0 : UInt64) (FP.dmul x_r3_0 x_13_0))
def own_v8b_1 (d1 : UInt64) (d4 : UInt64) (x_r3_0 : UInt64) (x_13_0 : UInt64) : UInt64 := (FP.ddiv (FP.dsub d1 (own_v8b_0 x_r3_0 x_13_0)) d4)
def own_v8b_2 (d1 : UInt64) (d4 : UInt64) (x_r3_0 : UInt64) (x_13_0 : UInt64) : UInt64 := (Native.java_lang_Math.nans.pick64 true (0 : UInt64) (own_v8b_1 d1 d4 x_r3_0 x_13_0))
theorem own_ef8b (m : MethodId) (tt : Addr) (d1 : UInt64) (r2 : Addr) (r3 : Addr) (d4 : UInt64) (d5 : UInt64) : entryFrame m #[(.ref tt), (.double d1), (.ref r2), (.ref r3), (.double d4), (.double d5)] 15 = mkF m 0 #[.val (.ref tt), .val (.double d1), .second, .val (.ref r2), .val (.ref r3), .val (.double d4), .second, .val (.double d5), .second, .unset, .unset, .unset, .unset, .unset, .unset] [] := by first | (simp [entryFrame, mkF, argsToLocals, Value.category]; done) | rfl
def own_Q8b (Z : State) (tt : Addr) (aA : Nat → Addr) (aK : Nat → ClassId) (aF : Nat → Nat → Value) (aV : Nat → Value) (aJ : List own_e) (d1 : UInt64) (f_r2 : Nat → Value) (r2 : Addr) (k_r2 : ClassId) (f_r3 : Nat → Value) (r3 : Addr) (k_r3 : ClassId) (d4 : UInt64) (d5 : UInt64) (y2 : Addr) (k_y2 : ClassId) (y3 : Addr) (k_y3 : ClassId) (y4 : Addr) (k_y4 : ClassId) (y5 : Addr) (k_y5 : ClassId) (x_r3_0 : UInt64) (x_13_0 : UInt64) (h0 : Heap) (n0 : Nat) (v : Option Value) (h : Heap) (L : List Loc) : Prop := ∃ (bk43_0 : Addr) (kn41 : ClassId) (bk43_1 : Addr) (kn39 : ClassId) (bn5 : Addr) (kn5 : ClassId) (bn9 : Addr) (kn9 : ClassId) (bk22_0 : Addr) (kk22_1 : ClassId) (bk16_0 : Addr) (kk16_1 : ClassId), v = some (.int 2) ∧ Fr n0 L ∧ own_R 15 Z n0 h tt aA aK (own_up2 (own_up2 (own_up2 (own_up2 (own_up2 (own_up2 (own_up2 (own_up2 (own_up2 (own_up2 (own_up2 (own_up2 (own_up2 (own_up2 (own_up2 (own_up2 (own_up2 aF 6 1 (.ref bn5)) 7 1 (.ref bn9)) 8 1 (.int 0)) 0 0 (.ref bk16_0)) 1 0 (.ref bk22_0)) 8 1 (.int 1)) 0 2 (.ref bk43_1)) 1 2 (.ref bk43_0)) 8 1 (.int 2)) 2 2 (.double d5)) 3 2 (.int (-1 : Int32))) 5 2 (.double 4607182418800017408)) 4 2 (.double 0)) 11 1 (.double d1)) 12 1 (.int 2)) 13 1 (.double (own_v8b_2 d1 d4 x_r3_0 x_13_0))) 3 2 (.int 1)) (own_up (own_up (own_up (own_up aV 17 (.int 2)) 19 (.int 1)) 20 (.int 0)) 15 (.int 3)) (⟨bk43_0, kn41, .double, 1, none⟩ :: ⟨bk43_1, kn39, .int, 1, none⟩ :: ⟨bn5, kn5, .int, 2, none⟩ :: ⟨bn9, kn9, .double, 2, none⟩ :: ⟨bk22_0, kk22_1, .double, 2, none⟩ :: ⟨bk16_0, kk16_1, .int, 2, none⟩ :: ⟨r2, k_r2, .int, 1, some f_r2⟩ :: ⟨r3, k_r3, .double, 1, some f_r3⟩ :: ⟨y2, k_y2, .int, 1, none⟩ :: ⟨y3, k_y3, .double, 1, none⟩ :: ⟨y4, k_y4, .int, 2, none⟩ :: ⟨y5, k_y5, .double, 2, none⟩ :: aJ)
set_option maxRecDepth 65536 in
set_option maxHeartbeats 40000000 in
theorem own_rm8b (l : Launch) (Z : State) (a0 : Array Value) (hw : ∀ d ∈ tables_1, d.before a0 Z = true) (ws : List Jvm.Cond) (tt : Addr) (aA : Nat → Addr) (aK : Nat → ClassId) (aF : Nat → Nat → Value) (aV : Nat → Value) (aJ : List own_e) (d1 : UInt64) (f_r2 : Nat → Value) (r2 : Addr) (k_r2 : ClassId) (f_r3 : Nat → Value) (r3 : Addr) (k_r3 : ClassId) (d4 : UInt64) (d5 : UInt64) (y2 : Addr) (k_y2 : ClassId) (y3 : Addr) (k_y3 : ClassId) (y4 : Addr) (k_y4 : ClassId) (y5 : Addr) (k_y5 : ClassId) (x_r3_0 : UInt64) (x_13_0 : UInt64) (h0 : Heap) (n0 : Nat) (Z0 : n0 ≤ h0.size) (B0 : own_R 15 Z n0 h0 tt aA aK aF aV (⟨r2, k_r2, .int, 1, some f_r2⟩ :: ⟨r3, k_r3, .double, 1, some f_r3⟩ :: ⟨y2, k_y2, .int, 1, none⟩ :: ⟨y3, k_y3, .double, 1, none⟩ :: ⟨y4, k_y4, .int, 2, none⟩ :: ⟨y5, k_y5, .double, 2, none⟩ :: aJ)) (vt_17 : aV 17 = (.int 1)) (vt_18 : aV 18 = (.int 16)) (et_r2_0 : f_r2 0 = (.int 0)) (at_0_0 : aF 0 0 = (.ref y2)) (at_1_0 : aF 1 0 = (.ref y3)) (et_r3_0 : f_r3 0 = (.double x_r3_0)) (at_3_0 : aF 3 0 = (.int 0)) (at_13_0 : aF 13 0 = (.double x_13_0)) (nn236 : NoNaN64 (FP.dmul x_r3_0 x_13_0)) (nn237 : NoNaN64 (FP.dadd (0 : UInt64) (FP.dmul x_r3_0 x_13_0))) (nn249 : NoNaN64 (FP.dsub d1 (own_v8b_0 x_r3_0 x_13_0))) (nn252 : NoNaN64 (FP.ddiv (FP.dsub d1 (own_v8b_0 x_r3_0 x_13_0)) d4)) (hc261 : ¬ ((cmpValue (FP.dcmp (own_v8b_1 d1 d4 x_r3_0 x_13_0) (13695778570484766357 : UInt64)) .g) < (0 : Int32))) (at_6_0 : aF 6 0 = (.ref y4)) (at_7_0 : aF 7 0 = (.ref y5)) (vt_15 : aV 15 = (.int 2)) (at_10_2 : aF 10 2 = (.int 0)) (c318_c252_c11_hc19 : ¬ ((cmpValue (FP.dcmp (0 : UInt64) (13695778570484766357 : UInt64)) .g) < (0 : Int32))) (nx349 : NoNaN64 (0 : UInt64)) (ny349 : NoNaN64 (own_v8b_1 d1 d4 x_r3_0 x_13_0)) :
    MetFree l (⟨"com/example/placewright/placewright/solver/RevisedSimplex", "addRow", "(D[I[DDD)I"⟩ : MethodName) (head1 (Jvm.Cond.code (⟨"com/example/placewright/placewright/solver/RevisedSimplex", "addRow", "(D[I[DDD)I"⟩ : MethodName) prog_29_method_3_code 15 (some .int) :: ws) ({ frames := 3, cells := 8, slots := 12, locals := 44 } : Room)) (fun a U => a = #[(.ref tt), (.double d1), (.ref r2), (.ref r3), (.double d4), (.double d5)] ∧ Z.Warmed39 U.vm ∧ U.heap = h0) (fun _ _ _ _ _ => True) (fun _ U o U' => ∃ v L, o = .returned v ∧ own_Q8b Z tt aA aK aF aV aJ d1 f_r2 r2 k_r2 f_r3 r3 k_r3 d4 d5 y2 k_y2 y3 k_y3 y4 k_y4 y5 k_y5 x_r3_0 x_13_0 h0 n0 v U'.heap L ∧ FrameEnd U o U' L ({ frames := 3, cells := 8, slots := 12, locals := 44 } : Room).cells ({ frames := 3, cells := 8, slots := 12, locals := 44 } : Room).slots) := by
  refine MetFree.of_bodySF (plainFor_of_name own_pn4) hisR ?_
  intro p e s m args below meth c s₁ Bd hml0 hP hK
  obtain ⟨rfl, hZ, hh⟩ := hP
  have hx := Bd.exec
  have hby := Bd.bytes
  have hml : c.maxLocals = 15 := hml0
  have hown : s.vm.findClass "com/example/placewright/placewright/solver/RevisedSimplex" = some m.cls := findClass_of_methodNamed Bd.named
  have hnm := (name_of_methodNamed Bd.named Bd.method).1
  have X0 : Stand p l e ({ frames := 3, cells := 8, slots := 12, locals := 44 } : Room) s m #[(.ref tt), (.double d1), (.ref r2), (.ref r3), (.double d4), (.double d5)] below meth c s₁ [] 0 0 := Stand.of_body Bd
  have e0 : s₁.heap = h0 := by rw [← hh, Bd.state]; rfl
  have N0 := Fr.nil n0
  have Zr : h0.size ≤ h0.size := Nat.le_refl _
  have pre0 : ∀ t, Steps p.tables e below (s₁.setTop (mkF m 0 #[.val (.ref tt), .val (.double d1), .second, .val (.ref r2), .val (.ref r3), .val (.double d4), .second, .val (.double d5), .second, .unset, .unset, .unset, .unset, .unset, .unset] [])) t → Steps p.tables e below (s₁.setTop (entryFrame m #[(.ref tt), (.double d1), (.ref r2), (.ref r3), (.double d4), (.double d5)] 15)) t := fun t k => castTop (own_ef8b m tt d1 r2 r3 d4 d5) k
  obtain ⟨Tn1, Xn1, en1, stn1⟩ := getF X0 hx hZ hown (host := "") (Or.inl (own_W hw 121 rfl)) Via.refl e0 (own_gs (v := (.int 1)) B0 17 (by decide) vt_17) (g := (mkF m 1 (own_L24 tt d1 r2 r3 d4 d5) [(.ref tt)])) rfl rfl (hb hby own_d8_1)
  obtain ⟨Tn2, Xn2, en2, stn2⟩ := getF Xn1 hx hZ hown (host := "") (Or.inl (own_W hw 43 rfl)) Via.refl en1 (own_gs (v := (.int 16)) B0 18 (by decide) vt_18) (g := (mkF m 9 (own_L57 tt d1 r2 r3 d4 d5) [(.ref tt), (.int 1)])) rfl rfl (hb hby own_d8_9)
  obtain ⟨Tn3, Xn3, en3, stn3⟩ := getF Xn2 hx hZ hown (host := "") (Or.inl (own_W hw 32 rfl)) Via.refl en2 (own_ga B0 6 (by decide) (by decide)) (g := (mkF m 20 (own_L57 tt d1 r2 r3 d4 d5) [(.ref tt)])) rfl rfl (hb hby own_d8_20)
  obtain ⟨_, _, ⟨Tk4, Lk4, kk4, nk4⟩, -, Xk4, ⟨Lck4, hQk4, lk4, yk4, zk4⟩, stk4⟩ := Jvm.LawKit.callS Xn3 hx (y := (⟨"java/lang/Math", "max", "(II)I"⟩ : MethodName)) hown (mvT hZ (own_W hw 129 rfl)) (mvT hZ (own_W hw 130 rfl)) (mvT hZ (own_W hw 3 rfl)) (mvT hZ (own_W hw 131 rfl)) (by decide) (backOf (W := 2) (own_rm9_2_2 l Z a0 hw []  h0 n0 (own_R_sz B0)) hZ (own_W hw 131 rfl) (own_W hw 3 rfl) (by decide) (by decide)) (g := (mkF m 30 (own_L57 tt d1 r2 r3 d4 d5) [(.int 2), (.int 2), (.int 1), (.ref (aA 6))])) rfl (by rw [hml]; rfl) (argsL := [(.int 2), (.int 2)]) (rest := [(.int 1), (.ref (aA 6))]) (lenOf own_pd2 rfl) rfl (by show 2 * 0 + _ ≤ _; exact Nat.le_of_eq rfl) (hb hby own_d8_30) (fun _ _ => ⟨rfl, en3, (by decide : 0 + 0 ≤ _), (by decide : 0 + 0 ≤ _)⟩)
  dsimp only [Pt.U, Pt.locs, Pt.cells, Pt.slots] at Xk4 lk4 yk4 zk4 stk4 hQk4
  replace lk4 := lk4.symm; replace yk4 := yk4.symm; replace zk4 := zk4.symm; subst lk4 yk4 zk4
  obtain ⟨rfl, Nk4q, ek4⟩ := hQk4
  have Nk4 := Fr.app N0 Nk4q
  obtain ⟨Tn5, hn5, bn5, kn5, Xn5, en5, Bn5, stn5⟩ := own_na Xk4 hx hZ (own_W hw 25 rfl) ek4 B0 .int rfl (fun _ => trivial) (by decide) (g := (mkF m 33 (own_L57 tt d1 r2 r3 d4 d5) [(.int 2), (.int 1), (.ref (aA 6))])) rfl (hb hby own_d8_33) rfl (by decide) (cap := 2) (by decide) (by decide) (by decide) (by decide)
  have Cn5 := own_R_forget Bn5
  obtain ⟨Tn6, hn6, Ln6, Xn6, en6, Bn6, Nn6, stn6⟩ := own_stR Xn5 hx hZ en5 Cn5 Nk4 6 1 0 (by decide) rfl (Or.inl ⟨rfl, rfl⟩) rfl (by decide) (g := (mkF m 35 (own_L57 tt d1 r2 r3 d4 d5) [(.ref bn5), (.int 1), (.ref (aA 6))])) rfl rfl (hb hby own_d8_35)
  obtain ⟨Tn7, Xn7, en7, stn7⟩ := getF Xn6 hx hZ hown (host := "") (Or.inl (own_W hw 34 rfl)) Via.refl en6 (own_ga Bn6 7 (by decide) (by decide)) (g := (mkF m 37 (own_L57 tt d1 r2 r3 d4 d5) [(.ref tt)])) rfl rfl (hb hby own_d8_37)
  obtain ⟨Tn8, Xn8, en8, stn8⟩ := getF Xn7 hx hZ hown (host := "") (Or.inl (own_W hw 32 rfl)) Via.refl en7 (own_ga Bn6 6 (by decide) (by decide)) (g := (mkF m 43 (own_L57 tt d1 r2 r3 d4 d5) [(.ref tt), (.int 1), (.ref (aA 7))])) rfl rfl (hb hby own_d8_43)
  obtain ⟨Tn9, hn9, bn9, kn9, Xn9, en9, Bn9, stn9⟩ := own_na Xn8 hx hZ (own_W hw 22 rfl) en8 Bn6 .double rfl (fun _ => trivial) (by decide) (g := (mkF m 50 (own_L57 tt d1 r2 r3 d4 d5) [(.int 2), (.int 1), (.ref (aA 7))])) rfl (hb hby own_d8_50) rfl (by decide) (cap := 2) (by decide) (by decide) (by decide) (by decide)
  have Cn9 := own_R_forget Bn9
  obtain ⟨Tn10, hn10, Ln10, Xn10, en10, Bn10, Nn10, stn10⟩ := own_stR Xn9 hx hZ en9 Cn9 Nn6 7 1 0 (by decide) rfl (Or.inr ⟨rfl, rfl⟩) rfl (by decide) (g := (mkF m 52 (own_L57 tt d1 r2 r3 d4 d5) [(.ref bn9), (.int 1), (.ref (aA 7))])) rfl rfl (hb hby own_d8_52)
  obtain ⟨Tn11, Xn11, en11, stn11⟩ := getF Xn10 hx hZ hown (host := "") (Or.inl (own_W hw 36 rfl)) Via.refl en10 (own_ga Bn10 8 (by decide) (by decide)) (g := (mkF m 54 (own_L57 tt d1 r2 r3 d4 d5) [(.ref tt)])) rfl rfl (hb hby own_d8_54)
  obtain ⟨Tn12, hn12, Ln12, Xn12, en12, Bn12, Nn12, stn12⟩ := own_stI Xn11 hx hZ en11 Bn10 Nn10 8 1 (by decide) rfl (by decide) (g := (mkF m 60 (own_L57 tt d1 r2 r3 d4 d5) [(.int 0), (.int 1), (.ref (aA 8))])) rfl rfl (hb hby own_d8_60)
  obtain ⟨Tn13, Xn13, en13, stn13⟩ := getF Xn12 hx hZ hown (host := "") (Or.inl (own_W hw 16 rfl)) Via.refl en12 (own_ga Bn12 0 (by decide) (by decide)) (g := (mkF m 78 (own_L59 tt d1 r2 r3 d4 d5) [(.ref tt)])) rfl rfl (hb hby own_d8_78)
  obtain ⟨Tn14, Xn14, en14, stn14⟩ := getF Xn13 hx hZ hown (host := "") (Or.inl (own_W hw 16 rfl)) Via.refl en13 (own_ga Bn12 0 (by decide) (by decide)) (g := (mkF m 84 (own_L59 tt d1 r2 r3 d4 d5) [(.ref tt), (.int 0), (.ref (aA 0))])) rfl rfl (hb hby own_d8_84)
  obtain ⟨Tn15, Xn15, en15, stn15⟩ := getF Xn14 hx hZ hown (host := "") (Or.inl (own_W hw 16 rfl)) Via.refl en14 (own_ga Bn12 0 (by decide) (by decide)) (g := (mkF m 91 (own_L59 tt d1 r2 r3 d4 d5) [(.ref tt), (.ref y2), (.int 0), (.ref (aA 0))])) rfl rfl (hb hby own_d8_91)
  have B17 : own_R 15 Z n0 hn12 tt aA aK _ _ (⟨y2, k_y2, .int, 1, none⟩ :: ⟨bn9, kn9, .double, 2, none⟩ :: ⟨bn5, kn5, .int, 2, none⟩ :: ⟨r2, k_r2, .int, 1, some f_r2⟩ :: ⟨r3, k_r3, .double, 1, some f_r3⟩ :: ⟨y3, k_y3, .double, 1, none⟩ :: ⟨y4, k_y4, .int, 2, none⟩ :: ⟨y5, k_y5, .double, 2, none⟩ :: aJ) := own_R_pick Bn12 8 [4, 0, 1, 2, 3, 5, 6, 7] trivial (by decide) (by decide)
  obtain ⟨_, _, ⟨Tk16, Lk16, kk16, nk16⟩, -, Xk16, ⟨Lck16, hQk16, lk16, yk16, zk16⟩, stk16⟩ := Jvm.LawKit.callS Xn15 hx (y := (⟨"java/util/Arrays", "copyOf", "([II)[I"⟩ : MethodName)) hown (mvT hZ (own_W hw 176 rfl)) (mvT hZ (own_W hw 177 rfl)) (mvT hZ (own_W hw 178 rfl)) (mvT hZ (own_W hw 179 rfl)) (by decide) (backOf (W := 2) (own_rm16a l Z a0 hw [] tt aA aK _ _ (⟨bn9, kn9, .double, 2, none⟩ :: ⟨bn5, kn5, .int, 2, none⟩ :: ⟨r2, k_r2, .int, 1, some f_r2⟩ :: ⟨r3, k_r3, .double, 1, some f_r3⟩ :: ⟨y3, k_y3, .double, 1, none⟩ :: ⟨y4, k_y4, .int, 2, none⟩ :: ⟨y5, k_y5, .double, 2, none⟩ :: aJ) y2 k_y2 hn12 n0 (own_R_sz B17) B17) hZ (own_W hw 179 rfl) (own_W hw 178 rfl) (by decide) (by decide)) (g := (mkF m 100 (own_L59 tt d1 r2 r3 d4 d5) [(.int 2), (.ref y2), (.int 0), (.ref (aA 0))])) rfl (by rw [hml]; rfl) (argsL := [(.ref y2), (.int 2)]) (rest := [(.int 0), (.ref (aA 0))]) (lenOf own_pd9 rfl) rfl (by show 2 * 0 + _ ≤ _; exact Nat.le_of_eq rfl) (hb hby own_d8_100) (fun _ _ => ⟨rfl, en15, (by decide : 2 + 1 ≤ _), (by decide : 4 + 2 ≤ _)⟩)
  dsimp only [Pt.U, Pt.locs, Pt.cells, Pt.slots] at Xk16 lk16 yk16 zk16 stk16 hQk16
  replace lk16 := lk16.symm; replace yk16 := yk16.symm; replace zk16 := zk16.symm; subst lk16 yk16 zk16
  obtain ⟨bk16_0, kk16_1, rfl, Nk16q, Bk16⟩ := hQk16
  have Nk16 := Fr.app Nn12 Nk16q
  obtain ⟨Tn18, hn18, Ln18, Xn18, en18, Bn18, Nn18, stn18⟩ := own_stR Xk16 hx hZ rfl Bk16 Nk16 0 0 0 (by decide) rfl (Or.inl ⟨rfl, rfl⟩) rfl (by decide) (g := (mkF m 103 (own_L59 tt d1 r2 r3 d4 d5) [(.ref bk16_0), (.int 0), (.ref (aA 0))])) rfl rfl (hb hby own_d8_103)
  obtain ⟨Tn19, Xn19, en19, stn19⟩ := getF Xn18 hx hZ hown (host := "") (Or.inl (own_W hw 20 rfl)) Via.refl en18 (own_ga Bn18 1 (by decide) (by decide)) (g := (mkF m 105 (own_L59 tt d1 r2 r3 d4 d5) [(.ref tt)])) rfl rfl (hb hby own_d8_105)
  obtain ⟨Tn20, Xn20, en20, stn20⟩ := getF Xn19 hx hZ hown (host := "") (Or.inl (own_W hw 20 rfl)) Via.refl en19 (own_ga Bn18 1 (by decide) (by decide)) (g := (mkF m 111 (own_L59 tt d1 r2 r3 d4 d5) [(.ref tt), (.int 0), (.ref (aA 1))])) rfl rfl (hb hby own_d8_111)
  obtain ⟨Tn21, Xn21, en21, stn21⟩ := getF Xn20 hx hZ hown (host := "") (Or.inl (own_W hw 20 rfl)) Via.refl en20 (own_ga Bn18 1 (by decide) (by decide)) (g := (mkF m 118 (own_L59 tt d1 r2 r3 d4 d5) [(.ref tt), (.ref y3), (.int 0), (.ref (aA 1))])) rfl rfl (hb hby own_d8_118)
  have B23 : own_R 15 Z n0 hn18 tt aA aK _ _ (⟨y3, k_y3, .double, 1, none⟩ :: ⟨bk16_0, kk16_1, .int, 2, none⟩ :: ⟨y2, k_y2, .int, 1, none⟩ :: ⟨bn9, kn9, .double, 2, none⟩ :: ⟨bn5, kn5, .int, 2, none⟩ :: ⟨r2, k_r2, .int, 1, some f_r2⟩ :: ⟨r3, k_r3, .double, 1, some f_r3⟩ :: ⟨y4, k_y4, .int, 2, none⟩ :: ⟨y5, k_y5, .double, 2, none⟩ :: aJ) := own_R_pick Bn18 9 [6, 0, 1, 2, 3, 4, 5, 7, 8] trivial (by decide) (by decide)
  obtain ⟨_, _, ⟨Tk22, Lk22, kk22, nk22⟩, -, Xk22, ⟨Lck22, hQk22, lk22, yk22, zk22⟩, stk22⟩ := Jvm.LawKit.callS Xn21 hx (y := (⟨"java/util/Arrays", "copyOf", "([DI)[D"⟩ : MethodName)) hown (mvT hZ (own_W hw 185 rfl)) (mvT hZ (own_W hw 186 rfl)) (mvT hZ (own_W hw 178 rfl)) (mvT hZ (own_W hw 187 rfl)) (by decide) (backOf (W := 2) (own_rm17a l Z a0 hw [] tt aA aK _ _ (⟨bk16_0, kk16_1, .int, 2, none⟩ :: ⟨y2, k_y2, .int, 1, none⟩ :: ⟨bn9, kn9, .double, 2, none⟩ :: ⟨bn5, kn5, .int, 2, none⟩ :: ⟨r2, k_r2, .int, 1, some f_r2⟩ :: ⟨r3, k_r3, .double, 1, some f_r3⟩ :: ⟨y4, k_y4, .int, 2, none⟩ :: ⟨y5, k_y5, .double, 2, none⟩ :: aJ) y3 k_y3 hn18 n0 (own_R_sz B23) B23) hZ (own_W hw 187 rfl) (own_W hw 178 rfl) (by decide) (by decide)) (g := (mkF m 127 (own_L59 tt d1 r2 r3 d4 d5) [(.int 2), (.ref y3), (.int 0), (.ref (aA 1))])) rfl (by rw [hml]; rfl) (argsL := [(.ref y3), (.int 2)]) (rest := [(.int 0), (.ref (aA 1))]) (lenOf own_pd10 rfl) rfl (by show 2 * 0 + _ ≤ _; exact Nat.le_of_eq rfl) (hb hby own_d8_127) (fun _ _ => ⟨rfl, en21, (by decide : 3 + 1 ≤ _), (by decide : 6 + 2 ≤ _)⟩)
  dsimp only [Pt.U, Pt.locs, Pt.cells, Pt.slots] at Xk22 lk22 yk22 zk22 stk22 hQk22
  replace lk22 := lk22.symm; replace yk22 := yk22.symm; replace zk22 := zk22.symm; subst lk22 yk22 zk22
  obtain ⟨bk22_0, kk22_1, rfl, Nk22q, Bk22⟩ := hQk22
  have Nk22 := Fr.app Nn18 Nk22q
  obtain ⟨Tn24, hn24, Ln24, Xn24, en24, Bn24, Nn24, stn24⟩ := own_stR Xk22 hx hZ rfl Bk22 Nk22 1 0 0 (by decide) rfl (Or.inr ⟨rfl, rfl⟩) rfl (by decide) (g := (mkF m 130 (own_L59 tt d1 r2 r3 d4 d5) [(.ref bk22_0), (.int 0), (.ref (aA 1))])) rfl rfl (hb hby own_d8_130)
  obtain ⟨Tn25, Xn25, en25, stn25⟩ := getF Xn24 hx hZ hown (host := "") (Or.inl (own_W hw 16 rfl)) Via.refl en24 (own_ga Bn24 0 (by decide) (by decide)) (g := (mkF m 132 (own_L59 tt d1 r2 r3 d4 d5) [(.ref tt)])) rfl rfl (hb hby own_d8_132)
  obtain ⟨Tn26, Xn26, en26, stn26⟩ := getF Xn25 hx hZ hown (host := "") (Or.inl (own_W hw 16 rfl)) Via.refl en25 (own_ga Bn24 0 (by decide) (by decide)) (g := (mkF m 139 (own_L59 tt d1 r2 r3 d4 d5) [(.ref tt), (.ref bk16_0)])) rfl rfl (hb hby own_d8_139)
  obtain ⟨Tn27, hn27, Ln27, Xn27, en27, Bn27, Nn27, stn27⟩ := own_seI Xn26 hx hZ en26 Bn24 Nn24 2 1 rfl (by decide) (g := (mkF m 150 (own_L59 tt d1 r2 r3 d4 d5) [(.int 1), (.int 1), (.ref bk16_0)])) rfl rfl (hb hby own_d8_150)
  obtain ⟨Tn28, Xn28, en28, stn28⟩ := getF Xn27 hx hZ hown (host := "") (Or.inl (own_W hw 20 rfl)) Via.refl en27 (own_ga Bn27 1 (by decide) (by decide)) (g := (mkF m 152 (own_L59 tt d1 r2 r3 d4 d5) [(.ref tt)])) rfl rfl (hb hby own_d8_152)
  obtain ⟨Tn29, Xn29, en29, stn29⟩ := getF Xn28 hx hZ hown (host := "") (Or.inl (own_W hw 20 rfl)) Via.refl en28 (own_ga Bn27 1 (by decide) (by decide)) (g := (mkF m 159 (own_L59 tt d1 r2 r3 d4 d5) [(.ref tt), (.ref bk22_0)])) rfl rfl (hb hby own_d8_159)
  obtain ⟨Tn30, hn30, Ln30, Xn30, en30, Bn30, Nn30, stn30⟩ := own_seD Xn29 hx hZ en29 Bn27 Nn27 0 1 rfl (by decide) (g := (mkF m 173 (own_L59 tt d1 r2 r3 d4 d5) [(.double x_r3_0), (.int 1), (.ref bk22_0)])) rfl rfl (hb hby own_d8_173)
  have B32 : own_R 15 Z n0 hn30 tt aA aK _ _ (⟨bn5, kn5, .int, 2, none⟩ :: ⟨bn9, kn9, .double, 2, none⟩ :: ⟨bk22_0, kk22_1, .double, 2, none⟩ :: ⟨y3, k_y3, .double, 1, none⟩ :: ⟨bk16_0, kk16_1, .int, 2, none⟩ :: ⟨y2, k_y2, .int, 1, none⟩ :: ⟨r2, k_r2, .int, 1, some f_r2⟩ :: ⟨r3, k_r3, .double, 1, some f_r3⟩ :: ⟨y4, k_y4, .int, 2, none⟩ :: ⟨y5, k_y5, .double, 2, none⟩ :: aJ) := own_R_pick Bn30 10 [5, 4, 0, 1, 2, 3, 6, 7, 8, 9] trivial (by decide) (by decide)
  obtain ⟨cqk31, qk31, qk31'⟩ := (own_R_exa B32).cell
  obtain ⟨_, _, ⟨Tk31, Lk31, kk31, nk31⟩, -, Xk31, ⟨Lck31, hQk31, lk31, yk31, zk31⟩, stk31⟩ := Xn30.privateBack hx (y := (⟨"com/example/placewright/placewright/solver/RevisedSimplex", "addToRow", "(IID)V"⟩ : MethodName)) hown (mvT hZ (own_W hw 155 rfl)) (mvT hZ (own_W hw 156 rfl)) (own_selP hZ (own_W hw 6 rfl) (own_W hw 157 rfl) (own_W hw 156 rfl) (by decide)) (Cond.privateMethod_at (mvP hZ (own_W hw 157 rfl) (args := #[]))) (mvT hZ (own_W hw 158 rfl)) (by decide) (backOf (W := 0) (own_rm11c l Z a0 hw [] tt aA aK _ _ (⟨bk22_0, kk22_1, .double, 2, none⟩ :: ⟨y3, k_y3, .double, 1, none⟩ :: ⟨bk16_0, kk16_1, .int, 2, none⟩ :: ⟨y2, k_y2, .int, 1, none⟩ :: ⟨r2, k_r2, .int, 1, some f_r2⟩ :: ⟨r3, k_r3, .double, 1, some f_r3⟩ :: ⟨y4, k_y4, .int, 2, none⟩ :: ⟨y5, k_y5, .double, 2, none⟩ :: aJ) x_r3_0 bn5 kn5 bn9 kn9 hn30 n0 (own_R_sz B32) B32 rfl rfl rfl) hZ (own_W hw 158 rfl) (own_W hw 7 rfl) (by decide) (by decide)) (g := (mkF m 184 (own_L59 tt d1 r2 r3 d4 d5) [(.double x_r3_0), (.int 0), (.int 1), (.ref tt)])) rfl (by rw [hml]; rfl) (Steps.refl _) (a := tt) (by rw [en30]; exact qk31) qk31' (argsL := [(.int 1), (.int 0), (.double x_r3_0)]) (rest := []) (lenOf own_pd4 rfl) rfl (by show 2 * 0 + _ ≤ _; exact Nat.le_of_eq rfl) (hb hby own_d8_184) (fun _ _ => ⟨rfl, en30, (by decide : 4 + 0 ≤ _), (by decide : 8 + 0 ≤ _)⟩)
  dsimp only [Pt.U, Pt.locs, Pt.cells, Pt.slots] at Xk31 lk31 yk31 zk31 stk31 hQk31
  replace lk31 := lk31.symm; replace yk31 := yk31.symm; replace zk31 := zk31.symm; subst lk31 yk31 zk31
  obtain ⟨rfl, Nk31q, Bk31⟩ := hQk31
  have Nk31 := Fr.app Nn30 Nk31q
  obtain ⟨Tn33, Xn33, en33, stn33⟩ := getF Xk31 hx hZ hown (host := "") (Or.inl (own_W hw 26 rfl)) Via.refl rfl (own_ga Bk31 3 (by decide) (by decide)) (g := (mkF m 207 (own_L63 tt d1 r2 r3 d4 d5) [(.ref tt)])) rfl rfl (hb hby own_d8_207)
  obtain ⟨Tn34, Xn34, en34, stn34⟩ := getF Xn33 hx hZ hown (host := "") (Or.inl (own_W hw 49 rfl)) Via.refl en33 (own_ga Bk31 13 (by decide) (by decide)) (g := (mkF m 230 (own_L64 tt d1 r2 r3 d4 d5) [(.ref tt), (.double x_r3_0), (.double 0)])) rfl rfl (hb hby own_d8_230)
  obtain ⟨Tn35, Xn35, en35, stn35⟩ := getF Xn34 hx hZ hown (host := "") (Or.inl (own_W hw 121 rfl)) Via.refl en34 (own_gs (v := (.int 1)) Bk31 17 (by decide) vt_17) (g := (mkF m 281 (own_L67 tt d1 r2 r3 d4 d5 (own_v8b_0 x_r3_0 x_13_0) (own_v8b_1 d1 d4 x_r3_0 x_13_0)) [(.ref tt), (.ref tt)])) rfl rfl (hb hby own_d8_281)
  obtain ⟨Tn36, hn36, Ln36, Xn36, en36, Bn36, Nn36, stn36⟩ := own_pu Xn35 hx hZ hown 17 (own_W hw 121 rfl) en35 Bk31 Nk31 (own_sS hw) (by decide) (by decide) (Or.inl (own_W hw 122 rfl)) (own_W hw 6 rfl) (v' := (.int 2)) rfl rfl (g := (mkF m 286 (own_L67 tt d1 r2 r3 d4 d5 (own_v8b_0 x_r3_0 x_13_0) (own_v8b_1 d1 d4 x_r3_0 x_13_0)) [(.int 2), (.ref tt)])) rfl rfl (hb hby own_d8_286)
  obtain ⟨Tn37, hn37, Ln37, Xn37, en37, Bn37, Nn37, stn37⟩ := own_pu Xn36 hx hZ hown 19 (own_W hw 135 rfl) en36 Bn36 Nn36 (own_sS hw) (by decide) (by decide) (Or.inl (own_W hw 136 rfl)) (own_W hw 6 rfl) (v' := (.int 1)) rfl rfl (g := (mkF m 291 (own_L67 tt d1 r2 r3 d4 d5 (own_v8b_0 x_r3_0 x_13_0) (own_v8b_1 d1 d4 x_r3_0 x_13_0)) [(.int 1), (.ref tt)])) rfl rfl (hb hby own_d8_291)
  obtain ⟨Tn38, hn38, Ln38, Xn38, en38, Bn38, Nn38, stn38⟩ := own_pu Xn37 hx hZ hown 20 (own_W hw 114 rfl) en37 Bn37 Nn37 (own_sS hw) (by decide) (by decide) (Or.inl (own_W hw 115 rfl)) (own_W hw 6 rfl) (v' := (.int 0)) rfl rfl (g := (mkF m 296 (own_L67 tt d1 r2 r3 d4 d5 (own_v8b_0 x_r3_0 x_13_0) (own_v8b_1 d1 d4 x_r3_0 x_13_0)) [(.int 0), (.ref tt)])) rfl rfl (hb hby own_d8_296)
  obtain ⟨Tn39, hn39, bn39, kn39, Xn39, en39, Bn39, stn39⟩ := own_na Xn38 hx hZ (own_W hw 25 rfl) en38 Bn38 .int rfl (fun _ => trivial) (by decide) (g := (mkF m 301 (own_L67 tt d1 r2 r3 d4 d5 (own_v8b_0 x_r3_0 x_13_0) (own_v8b_1 d1 d4 x_r3_0 x_13_0)) [(.int 1), (.ref tt)])) rfl (hb hby own_d8_301) rfl (by decide) (cap := 1) (by decide) (by decide) (by decide) (by decide)
  obtain ⟨Tn40, hn40, Ln40, Xn40, en40, Bn40, Nn40, stn40⟩ := own_shI Xn39 hx hZ en39 Bn39 Nn38 0 (by decide) (g := (mkF m 307 (own_L67 tt d1 r2 r3 d4 d5 (own_v8b_0 x_r3_0 x_13_0) (own_v8b_1 d1 d4 x_r3_0 x_13_0)) [(.int 1), (.int 0), (.ref bn39), (.ref bn39), (.ref tt)])) rfl rfl (hb hby own_d8_307)
  obtain ⟨Tn41, hn41, bn41, kn41, Xn41, en41, Bn41, stn41⟩ := own_na Xn40 hx hZ (own_W hw 22 rfl) en40 Bn40 .double rfl (fun _ => trivial) (by decide) (g := (mkF m 309 (own_L67 tt d1 r2 r3 d4 d5 (own_v8b_0 x_r3_0 x_13_0) (own_v8b_1 d1 d4 x_r3_0 x_13_0)) [(.int 1), (.ref bn39), (.ref tt)])) rfl (hb hby own_d8_309) rfl (by decide) (cap := 1) (by decide) (by decide) (by decide) (by decide)
  obtain ⟨Tn42, hn42, Ln42, Xn42, en42, Bn42, Nn42, stn42⟩ := own_shD Xn41 hx hZ en41 Bn41 Nn40 0 (by decide) (g := (mkF m 315 (own_L67 tt d1 r2 r3 d4 d5 (own_v8b_0 x_r3_0 x_13_0) (own_v8b_1 d1 d4 x_r3_0 x_13_0)) [(.double d4), (.int 0), (.ref bn41), (.ref bn41), (.ref bn39), (.ref tt)])) rfl rfl (hb hby own_d8_315)
  have B44 : own_R 15 Z n0 hn42 tt aA aK _ _ (⟨bn39, kn39, .int, 1, some (own_up (own_all (.int 0)) 0 (.int 1))⟩ :: ⟨bn41, kn41, .double, 1, some (own_up (own_all (.double 0)) 0 (.double d4))⟩ :: ⟨bn5, kn5, .int, 2, none⟩ :: ⟨bn9, kn9, .double, 2, none⟩ :: ⟨bk22_0, kk22_1, .double, 2, none⟩ :: ⟨y3, k_y3, .double, 1, none⟩ :: ⟨bk16_0, kk16_1, .int, 2, none⟩ :: ⟨y2, k_y2, .int, 1, none⟩ :: ⟨r2, k_r2, .int, 1, some f_r2⟩ :: ⟨r3, k_r3, .double, 1, some f_r3⟩ :: ⟨y4, k_y4, .int, 2, none⟩ :: ⟨y5, k_y5, .double, 2, none⟩ :: aJ) := own_R_pick Bn42 12 [1, 0, 2, 3, 4, 5, 6, 7, 8, 9, 10, 11] trivial (by decide) (by decide)
  obtain ⟨cqk43, kqk43, qk43a, qk43b, qk43c⟩ := isOf hZ en42 (own_R_exa B44)
  obtain ⟨_, _, ⟨Tk43, Lk43, kk43, nk43⟩, -, Xk43, ⟨Lck43, hQk43, lk43, yk43, zk43⟩, stk43⟩ := Xn42.virtualBack hx (y := (⟨"com/example/placewright/placewright/solver/RevisedSimplex", "addColumn", "([I[DD)I"⟩ : MethodName)) (z := (⟨"com/example/placewright/placewright/solver/RevisedSimplex", "addColumn", "([I[DD)I"⟩ : MethodName)) hown (mvT hZ (own_W hw 137 rfl)) (mvT hZ (own_W hw 138 rfl)) (notFace_of_selects (args := #[]) (mvT hZ (own_W hw 140 rfl))) (mvT hZ (own_W hw 140 rfl)) (mvT hZ (own_W hw 139 rfl)) (by decide) (backOf (W := 0) (own_rm10c l Z a0 hw [] tt aA aK _ _ (⟨bk22_0, kk22_1, .double, 2, none⟩ :: ⟨y3, k_y3, .double, 1, none⟩ :: ⟨bk16_0, kk16_1, .int, 2, none⟩ :: ⟨y2, k_y2, .int, 1, none⟩ :: ⟨r2, k_r2, .int, 1, some f_r2⟩ :: ⟨r3, k_r3, .double, 1, some f_r3⟩ :: ⟨y4, k_y4, .int, 2, none⟩ :: ⟨y5, k_y5, .double, 2, none⟩ :: aJ) _ bn39 kn39 _ bn41 kn41 d5 bn5 kn5 bn9 kn9 d4 hn42 n0 (own_R_sz B44) B44 vt_15 rfl rfl rfl rfl rfl rfl at_10_2 c318_c252_c11_hc19) hZ (own_W hw 141 rfl) (own_W hw 7 rfl) (by decide) (by decide)) qk43a qk43c (g := (mkF m 318 (own_L67 tt d1 r2 r3 d4 d5 (own_v8b_0 x_r3_0 x_13_0) (own_v8b_1 d1 d4 x_r3_0 x_13_0)) [(.double d5), (.ref bn41), (.ref bn39), (.ref tt)])) rfl (by rw [hml]; rfl) (Steps.refl _) (argsL := [(.ref bn39), (.ref bn41), (.double d5)]) (rest := []) (lenOf own_pd6 rfl) rfl (by show 2 * 0 + _ ≤ _; exact Nat.le_of_eq rfl) (hb hby own_d8_318) (fun _ _ => ⟨rfl, en42, (by decide : 6 + 2 ≤ _), (by decide : 10 + 2 ≤ _)⟩)
  dsimp only [Pt.U, Pt.locs, Pt.cells, Pt.slots] at Xk43 lk43 yk43 zk43 stk43 hQk43
  replace lk43 := lk43.symm; replace yk43 := yk43.symm; replace zk43 := zk43.symm; subst lk43 yk43 zk43
  obtain ⟨bk43_0, bk43_1, rfl, Nk43q, Bk43⟩ := hQk43
  have Nk43 := Fr.app Nn42 Nk43q
  obtain ⟨Tn45, Xn45, en45, stn45⟩ := getF Xk43 hx hZ hown (host := "") (Or.inl (own_W hw 45 rfl)) Via.refl rfl (own_ga Bk43 11 (by decide) (by decide)) (g := (mkF m 324 (own_L72 tt d1 r2 r3 d4 d5 (own_v8b_0 x_r3_0 x_13_0) (own_v8b_1 d1 d4 x_r3_0 x_13_0)) [(.ref tt)])) rfl rfl (hb hby own_d8_324)
  obtain ⟨Tn46, hn46, Ln46, Xn46, en46, Bn46, Nn46, stn46⟩ := own_stD Xn45 hx hZ en45 Bk43 Nk43 11 1 (by decide) rfl (by decide) (g := (mkF m 330 (own_L72 tt d1 r2 r3 d4 d5 (own_v8b_0 x_r3_0 x_13_0) (own_v8b_1 d1 d4 x_r3_0 x_13_0)) [(.double d1), (.int 1), (.ref (aA 11))])) rfl rfl (hb hby own_d8_330)
  obtain ⟨Tn47, Xn47, en47, stn47⟩ := getF Xn46 hx hZ hown (host := "") (Or.inl (own_W hw 47 rfl)) Via.refl en46 (own_ga Bn46 12 (by decide) (by decide)) (g := (mkF m 332 (own_L72 tt d1 r2 r3 d4 d5 (own_v8b_0 x_r3_0 x_13_0) (own_v8b_1 d1 d4 x_r3_0 x_13_0)) [(.ref tt)])) rfl rfl (hb hby own_d8_332)
  obtain ⟨Tn48, hn48, Ln48, Xn48, en48, Bn48, Nn48, stn48⟩ := own_stI Xn47 hx hZ en47 Bn46 Nn46 12 1 (by decide) rfl (by decide) (g := (mkF m 339 (own_L72 tt d1 r2 r3 d4 d5 (own_v8b_0 x_r3_0 x_13_0) (own_v8b_1 d1 d4 x_r3_0 x_13_0)) [(.int 2), (.int 1), (.ref (aA 12))])) rfl rfl (hb hby own_d8_339)
  obtain ⟨Tn49, Xn49, en49, stn49⟩ := getF Xn48 hx hZ hown (host := "") (Or.inl (own_W hw 49 rfl)) Via.refl en48 (own_ga Bn48 13 (by decide) (by decide)) (g := (mkF m 341 (own_L72 tt d1 r2 r3 d4 d5 (own_v8b_0 x_r3_0 x_13_0) (own_v8b_1 d1 d4 x_r3_0 x_13_0)) [(.ref tt)])) rfl rfl (hb hby own_d8_341)
  obtain ⟨rk50, _, ⟨Tk50, Lk50, kk50, nk50⟩, -, Xk50, ⟨hvk50, hBk50⟩, stk50⟩ := Jvm.LawKit.callS Xn49 hx (y := (⟨"java/lang/Math", "max", "(DD)D"⟩ : MethodName)) hown (mvT hZ (own_W hw 167 rfl)) (mvT hZ (own_W hw 168 rfl)) (mvT hZ (own_W hw 3 rfl)) (mvT hZ (own_W hw 169 rfl)) (by decide) (Jvm.Free.Fl.Abs.maxD_pays (W := 2) (0 : UInt64) (own_v8b_1 d1 d4 x_r3_0 x_13_0) (mvT hZ (own_W hw 169 rfl)) (by decide) (by decide)) (g := (mkF m 349 (own_L72 tt d1 r2 r3 d4 d5 (own_v8b_0 x_r3_0 x_13_0) (own_v8b_1 d1 d4 x_r3_0 x_13_0)) [(.double (own_v8b_1 d1 d4 x_r3_0 x_13_0)), (.double 0), (.int 1), (.ref (aA 13))])) rfl (by rw [hml]; rfl) (argsL := [(.double 0), (.double (own_v8b_1 d1 d4 x_r3_0 x_13_0))]) (rest := [(.int 1), (.ref (aA 13))]) (lenOf own_pd7 rfl) rfl (by show 2 * 0 + _ ≤ _; exact Nat.le_of_eq rfl) (hb hby own_d8_349) (fun _ _ => ⟨(by decide : 8 ≤ _), (by decide : 12 ≤ _), rfl, nx349, ny349⟩)
  subst hvk50
  simp only [Prod.mk.injEq] at hBk50; obtain ⟨hUk50, hLk50, hck50, hnk50⟩ := hBk50
  dsimp only [Pt.U, Pt.locs, Pt.cells, Pt.slots] at Xk50 stk50
  subst hLk50 hck50 hnk50
  have ek50 : Tk50.heap = hn48 := (congrArg State.heap hUk50).trans en49
  obtain ⟨Tn51, hn51, Ln51, Xn51, en51, Bn51, Nn51, stn51⟩ := own_stD Xk50 hx hZ ek50 Bn48 Nn48 13 1 (by decide) rfl (by decide) (g := (mkF m 352 (own_L72 tt d1 r2 r3 d4 d5 (own_v8b_0 x_r3_0 x_13_0) (own_v8b_1 d1 d4 x_r3_0 x_13_0)) [(.double (Native.java_lang_Math.nans.pick64 true (0 : UInt64) (own_v8b_1 d1 d4 x_r3_0 x_13_0))), (.int 1), (.ref (aA 13))])) rfl rfl (hb hby own_d8_352)
  obtain ⟨Tn52, Xn52, en52, stn52⟩ := getF Xn51 hx hZ hown (host := "") (Or.inl (own_W hw 26 rfl)) Via.refl en51 (own_ga Bn51 3 (by decide) (by decide)) (g := (mkF m 354 (own_L72 tt d1 r2 r3 d4 d5 (own_v8b_0 x_r3_0 x_13_0) (own_v8b_1 d1 d4 x_r3_0 x_13_0)) [(.ref tt)])) rfl rfl (hb hby own_d8_354)
  obtain ⟨Tn53, hn53, Ln53, Xn53, en53, Bn53, Nn53, stn53⟩ := own_stI Xn52 hx hZ en52 Bn51 Nn51 3 2 (by decide) rfl (by decide) (g := (mkF m 361 (own_L72 tt d1 r2 r3 d4 d5 (own_v8b_0 x_r3_0 x_13_0) (own_v8b_1 d1 d4 x_r3_0 x_13_0)) [(.int 1), (.int 2), (.ref (aA 3))])) rfl rfl (hb hby own_d8_361)
  obtain ⟨fs, hr, hrun, hended, hW, hsame⟩ := Xn53.leave (v := some (.int 2)) (fun h => by rw [Bd.returns] at h; cases h)
  refine ⟨_, _, pre0 _ (?_), hrun, hended, _, _, rfl, ?_, ⟨_, rfl⟩, hW, hsame.mono (by decide) (by decide)⟩
  · show Steps p.tables e below (s₁.setTop (mkF m 0 (own_L24 tt d1 r2 r3 d4 d5) [])) _
    refine XS.aloadN X0.here hx rfl (hb hby own_d8_0) rfl rfl ?_
    refine stn1 _ ?_
    refine XS.istore Xn1.here hx rfl (hb hby own_d8_4) rfl (l' := (own_L57 tt d1 r2 r3 d4 d5)) rfl ?_
    refine XS.iload Xn1.here hx rfl (hb hby own_d8_6) rfl ?_
    refine XS.aloadN Xn1.here hx rfl (hb hby own_d8_8) rfl rfl ?_
    refine stn2 _ ?_
    show Steps p.tables e below (Tn2.setTop (mkF m 12 (own_L57 tt d1 r2 r3 d4 d5) [(.int 16), (.int 1)])) _
    refine XS.icmpYes Xn2.here hx rfl (pc0 := 12) (pc' := 19) rfl (hb hby own_d8_12) rfl (XT.ii_ne_t (by decide : ¬ ((1 : Int32) = (16 : Int32)))) (by decide) (by decide) ?_
    refine XS.aloadN Xn2.here hx rfl (hb hby own_d8_19) rfl rfl ?_
    refine stn3 _ ?_
    show Steps p.tables e below (Tn3.setTop (mkF m 23 (own_L57 tt d1 r2 r3 d4 d5) [(.ref (aA 6))])) _
    refine XS.iload Xn3.here hx rfl (hb hby own_d8_23) rfl ?_
    refine XS.aloadN Xn3.here hx rfl (hb hby own_d8_25) rfl rfl ?_
    refine own_len Xn3 hx hZ en3 (own_en (m := 0) B0 rfl) (g := (mkF m 26 (own_L57 tt d1 r2 r3 d4 d5) [(.ref r2), (.int 1), (.ref (aA 6))])) rfl rfl (hb hby own_d8_26) _ ?_
    show Steps p.tables e below (Tn3.setTop (mkF m 27 (own_L57 tt d1 r2 r3 d4 d5) [(.int 1), (.int 1), (.ref (aA 6))])) _
    refine XS.iconst Xn3.here hx rfl (hb hby own_d8_27) ?_
    refine XS.iadd Xn3.here hx rfl (hb hby own_d8_28) rfl ?_
    refine XS.iconst Xn3.here hx rfl (hb hby own_d8_29) ?_
    refine stk4 _ ?_
    show Steps p.tables e below (Tk4.setTop (mkF m 33 (own_L57 tt d1 r2 r3 d4 d5) [(.int 2), (.int 1), (.ref (aA 6))])) _
    refine stn5 _ ?_
    refine stn6 _ ?_
    refine XS.aloadN Xn6.here hx rfl (hb hby own_d8_36) rfl rfl ?_
    refine stn7 _ ?_
    show Steps p.tables e below (Tn7.setTop (mkF m 40 (own_L57 tt d1 r2 r3 d4 d5) [(.ref (aA 7))])) _
    refine XS.iload Xn7.here hx rfl (hb hby own_d8_40) rfl ?_
    refine XS.aloadN Xn7.here hx rfl (hb hby own_d8_42) rfl rfl ?_
    refine stn8 _ ?_
    show Steps p.tables e below (Tn8.setTop (mkF m 46 (own_L57 tt d1 r2 r3 d4 d5) [(.ref (aA 6)), (.int 1), (.ref (aA 7))])) _
    refine XS.iload Xn8.here hx rfl (hb hby own_d8_46) rfl ?_
    refine own_ldR Xn8 hx hZ en8 (own_pk Bn6 6 (by decide)) 1 (by decide) (v := (.ref bn5)) rfl (g := (mkF m 48 (own_L57 tt d1 r2 r3 d4 d5) [(.int 1), (.ref (aA 6)), (.int 1), (.ref (aA 7))])) rfl rfl (hb hby own_d8_48) _ ?_
    refine own_len Xn8 hx hZ en8 (own_en (m := 0) Bn6 rfl) (g := (mkF m 49 (own_L57 tt d1 r2 r3 d4 d5) [(.ref bn5), (.int 1), (.ref (aA 7))])) rfl rfl (hb hby own_d8_49) _ ?_
    show Steps p.tables e below (Tn8.setTop (mkF m 50 (own_L57 tt d1 r2 r3 d4 d5) [(.int 2), (.int 1), (.ref (aA 7))])) _
    refine stn9 _ ?_
    refine stn10 _ ?_
    refine XS.aloadN Xn10.here hx rfl (hb hby own_d8_53) rfl rfl ?_
    refine stn11 _ ?_
    show Steps p.tables e below (Tn11.setTop (mkF m 57 (own_L57 tt d1 r2 r3 d4 d5) [(.ref (aA 8))])) _
    refine XS.iload Xn11.here hx rfl (hb hby own_d8_57) rfl ?_
    refine XS.iconst Xn11.here hx rfl (hb hby own_d8_59) ?_
    refine stn12 _ ?_
    show Steps p.tables e below (Tn12.setTop (mkF m 61 (own_L57 tt d1 r2 r3 d4 d5) [])) _
    refine XS.iconst Xn12.here hx rfl (hb hby own_d8_61) ?_
    refine XS.istore Xn12.here hx rfl (hb hby own_d8_62) rfl (l' := (own_L58 tt d1 r2 r3 d4 d5)) rfl ?_
    refine XS.iload Xn12.here hx rfl (hb hby own_d8_64) rfl ?_
    refine XS.aloadN Xn12.here hx rfl (hb hby own_d8_66) rfl rfl ?_
    refine own_len Xn12 hx hZ en12 (own_en (m := 2) Bn12 rfl) (g := (mkF m 67 (own_L58 tt d1 r2 r3 d4 d5) [(.ref r2), (.int 0)])) rfl rfl (hb hby own_d8_67) _ ?_
    show Steps p.tables e below (Tn12.setTop (mkF m 68 (own_L58 tt d1 r2 r3 d4 d5) [(.int 1), (.int 0)])) _
    refine XS.icmpNo Xn12.here hx rfl (hb hby own_d8_68) rfl (XT.ii_ge_f (by decide : (0 : Int32) < (1 : Int32))) ?_
    refine XS.aloadN Xn12.here hx rfl (hb hby own_d8_71) rfl rfl ?_
    refine XS.iload Xn12.here hx rfl (hb hby own_d8_72) rfl ?_
    refine own_ldI Xn12 hx hZ en12 (own_en (m := 2) Bn12 rfl) 0 (by decide) (v := (.int 0)) et_r2_0 (g := (mkF m 74 (own_L58 tt d1 r2 r3 d4 d5) [(.int 0), (.ref r2)])) rfl rfl (hb hby own_d8_74) _ ?_
    show Steps p.tables e below (Tn12.setTop (mkF m 75 (own_L58 tt d1 r2 r3 d4 d5) [(.int 0)])) _
    refine XS.istore Xn12.here hx rfl (hb hby own_d8_75) rfl (l' := (own_L59 tt d1 r2 r3 d4 d5)) rfl ?_
    refine XS.aloadN Xn12.here hx rfl (hb hby own_d8_77) rfl rfl ?_
    refine stn13 _ ?_
    show Steps p.tables e below (Tn13.setTop (mkF m 81 (own_L59 tt d1 r2 r3 d4 d5) [(.ref (aA 0))])) _
    refine XS.iload Xn13.here hx rfl (hb hby own_d8_81) rfl ?_
    refine XS.aloadN Xn13.here hx rfl (hb hby own_d8_83) rfl rfl ?_
    refine stn14 _ ?_
    show Steps p.tables e below (Tn14.setTop (mkF m 87 (own_L59 tt d1 r2 r3 d4 d5) [(.ref (aA 0)), (.int 0), (.ref (aA 0))])) _
    refine XS.iload Xn14.here hx rfl (hb hby own_d8_87) rfl ?_
    refine own_ldR Xn14 hx hZ en14 (own_pk Bn12 0 (by decide)) 0 (by decide) (v := (.ref y2)) at_0_0 (g := (mkF m 89 (own_L59 tt d1 r2 r3 d4 d5) [(.int 0), (.ref (aA 0)), (.int 0), (.ref (aA 0))])) rfl rfl (hb hby own_d8_89) _ ?_
    refine XS.aloadN Xn14.here hx rfl (hb hby own_d8_90) rfl rfl ?_
    refine stn15 _ ?_
    show Steps p.tables e below (Tn15.setTop (mkF m 94 (own_L59 tt d1 r2 r3 d4 d5) [(.ref (aA 0)), (.ref y2), (.int 0), (.ref (aA 0))])) _
    refine XS.iload Xn15.here hx rfl (hb hby own_d8_94) rfl ?_
    refine own_ldR Xn15 hx hZ en15 (own_pk Bn12 0 (by decide)) 0 (by decide) (v := (.ref y2)) at_0_0 (g := (mkF m 96 (own_L59 tt d1 r2 r3 d4 d5) [(.int 0), (.ref (aA 0)), (.ref y2), (.int 0), (.ref (aA 0))])) rfl rfl (hb hby own_d8_96) _ ?_
    refine own_len Xn15 hx hZ en15 (own_en (m := 4) Bn12 rfl) (g := (mkF m 97 (own_L59 tt d1 r2 r3 d4 d5) [(.ref y2), (.ref y2), (.int 0), (.ref (aA 0))])) rfl rfl (hb hby own_d8_97) _ ?_
    show Steps p.tables e below (Tn15.setTop (mkF m 98 (own_L59 tt d1 r2 r3 d4 d5) [(.int 1), (.ref y2), (.int 0), (.ref (aA 0))])) _
    refine XS.iconst Xn15.here hx rfl (hb hby own_d8_98) ?_
    refine XS.iadd Xn15.here hx rfl (hb hby own_d8_99) rfl ?_
    refine stk16 _ ?_
    show Steps p.tables e below (Tk16.setTop (mkF m 103 (own_L59 tt d1 r2 r3 d4 d5) [(.ref bk16_0), (.int 0), (.ref (aA 0))])) _
    refine stn18 _ ?_
    refine XS.aloadN Xn18.here hx rfl (hb hby own_d8_104) rfl rfl ?_
    refine stn19 _ ?_
    show Steps p.tables e below (Tn19.setTop (mkF m 108 (own_L59 tt d1 r2 r3 d4 d5) [(.ref (aA 1))])) _
    refine XS.iload Xn19.here hx rfl (hb hby own_d8_108) rfl ?_
    refine XS.aloadN Xn19.here hx rfl (hb hby own_d8_110) rfl rfl ?_
    refine stn20 _ ?_
    show Steps p.tables e below (Tn20.setTop (mkF m 114 (own_L59 tt d1 r2 r3 d4 d5) [(.ref (aA 1)), (.int 0), (.ref (aA 1))])) _
    refine XS.iload Xn20.here hx rfl (hb hby own_d8_114) rfl ?_
    refine own_ldR Xn20 hx hZ en20 (own_pk Bn18 1 (by decide)) 0 (by decide) (v := (.ref y3)) at_1_0 (g := (mkF m 116 (own_L59 tt d1 r2 r3 d4 d5) [(.int 0), (.ref (aA 1)), (.int 0), (.ref (aA 1))])) rfl rfl (hb hby own_d8_116) _ ?_
    refine XS.aloadN Xn20.here hx rfl (hb hby own_d8_117) rfl rfl ?_
    refine stn21 _ ?_
    show Steps p.tables e below (Tn21.setTop (mkF m 121 (own_L59 tt d1 r2 r3 d4 d5) [(.ref (aA 1)), (.ref y3), (.int 0), (.ref (aA 1))])) _
    refine XS.iload Xn21.here hx rfl (hb hby own_d8_121) rfl ?_
    refine own_ldR Xn21 hx hZ en21 (own_pk Bn18 1 (by decide)) 0 (by decide) (v := (.ref y3)) at_1_0 (g := (mkF m 123 (own_L59 tt d1 r2 r3 d4 d5) [(.int 0), (.ref (aA 1)), (.ref y3), (.int 0), (.ref (aA 1))])) rfl rfl (hb hby own_d8_123) _ ?_
    refine own_len Xn21 hx hZ en21 (own_en (m := 6) Bn18 rfl) (g := (mkF m 124 (own_L59 tt d1 r2 r3 d4 d5) [(.ref y3), (.ref y3), (.int 0), (.ref (aA 1))])) rfl rfl (hb hby own_d8_124) _ ?_
    show Steps p.tables e below (Tn21.setTop (mkF m 125 (own_L59 tt d1 r2 r3 d4 d5) [(.int 1), (.ref y3), (.int 0), (.ref (aA 1))])) _
    refine XS.iconst Xn21.here hx rfl (hb hby own_d8_125) ?_
    refine XS.iadd Xn21.here hx rfl (hb hby own_d8_126) rfl ?_
    refine stk22 _ ?_
    show Steps p.tables e below (Tk22.setTop (mkF m 130 (own_L59 tt d1 r2 r3 d4 d5) [(.ref bk22_0), (.int 0), (.ref (aA 1))])) _
    refine stn24 _ ?_
    refine XS.aloadN Xn24.here hx rfl (hb hby own_d8_131) rfl rfl ?_
    refine stn25 _ ?_
    show Steps p.tables e below (Tn25.setTop (mkF m 135 (own_L59 tt d1 r2 r3 d4 d5) [(.ref (aA 0))])) _
    refine XS.iload Xn25.here hx rfl (hb hby own_d8_135) rfl ?_
    refine own_ldR Xn25 hx hZ en25 (own_pk Bn24 0 (by decide)) 0 (by decide) (v := (.ref bk16_0)) rfl (g := (mkF m 137 (own_L59 tt d1 r2 r3 d4 d5) [(.int 0), (.ref (aA 0))])) rfl rfl (hb hby own_d8_137) _ ?_
    refine XS.aloadN Xn25.here hx rfl (hb hby own_d8_138) rfl rfl ?_
    refine stn26 _ ?_
    show Steps p.tables e below (Tn26.setTop (mkF m 142 (own_L59 tt d1 r2 r3 d4 d5) [(.ref (aA 0)), (.ref bk16_0)])) _
    refine XS.iload Xn26.here hx rfl (hb hby own_d8_142) rfl ?_
    refine own_ldR Xn26 hx hZ en26 (own_pk Bn24 0 (by decide)) 0 (by decide) (v := (.ref bk16_0)) rfl (g := (mkF m 144 (own_L59 tt d1 r2 r3 d4 d5) [(.int 0), (.ref (aA 0)), (.ref bk16_0)])) rfl rfl (hb hby own_d8_144) _ ?_
    refine own_len Xn26 hx hZ en26 (own_en (m := 2) Bn24 rfl) (g := (mkF m 145 (own_L59 tt d1 r2 r3 d4 d5) [(.ref bk16_0), (.ref bk16_0)])) rfl rfl (hb hby own_d8_145) _ ?_
    show Steps p.tables e below (Tn26.setTop (mkF m 146 (own_L59 tt d1 r2 r3 d4 d5) [(.int 2), (.ref bk16_0)])) _
    refine XS.iconst Xn26.here hx rfl (hb hby own_d8_146) ?_
    refine XS.isub Xn26.here hx rfl (hb hby own_d8_147) rfl ?_
    refine XS.iload Xn26.here hx rfl (hb hby own_d8_148) rfl ?_
    refine stn27 _ ?_
    show Steps p.tables e below (Tn27.setTop (mkF m 151 (own_L59 tt d1 r2 r3 d4 d5) [])) _
    refine XS.aloadN Xn27.here hx rfl (hb hby own_d8_151) rfl rfl ?_
    refine stn28 _ ?_
    refine XS.iload Xn28.here hx rfl (hb hby own_d8_155) rfl ?_
    refine own_ldR Xn28 hx hZ en28 (own_pk Bn27 1 (by decide)) 0 (by decide) (v := (.ref bk22_0)) rfl (g := (mkF m 157 (own_L59 tt d1 r2 r3 d4 d5) [(.int 0), (.ref (aA 1))])) rfl rfl (hb hby own_d8_157) _ ?_
    show Steps p.tables e below (Tn28.setTop (mkF m 158 (own_L59 tt d1 r2 r3 d4 d5) [(.ref bk22_0)])) _
    refine XS.aloadN Xn28.here hx rfl (hb hby own_d8_158) rfl rfl ?_
    refine stn29 _ ?_
    refine XS.iload Xn29.here hx rfl (hb hby own_d8_162) rfl ?_
    refine own_ldR Xn29 hx hZ en29 (own_pk Bn27 1 (by decide)) 0 (by decide) (v := (.ref bk22_0)) rfl (g := (mkF m 164 (own_L59 tt d1 r2 r3 d4 d5) [(.int 0), (.ref (aA 1)), (.ref bk22_0)])) rfl rfl (hb hby own_d8_164) _ ?_
    show Steps p.tables e below (Tn29.setTop (mkF m 165 (own_L59 tt d1 r2 r3 d4 d5) [(.ref bk22_0), (.ref bk22_0)])) _
    refine own_len Xn29 hx hZ en29 (own_en (m := 0) Bn27 rfl) (g := (mkF m 165 (own_L59 tt d1 r2 r3 d4 d5) [(.ref bk22_0), (.ref bk22_0)])) rfl rfl (hb hby own_d8_165) _ ?_
    refine XS.iconst Xn29.here hx rfl (hb hby own_d8_166) ?_
    refine XS.isub Xn29.here hx rfl (hb hby own_d8_167) rfl ?_
    show Steps p.tables e below (Tn29.setTop (mkF m 168 (own_L59 tt d1 r2 r3 d4 d5) [(.int 1), (.ref bk22_0)])) _
    refine XS.aload Xn29.here hx rfl (hb hby own_d8_168) rfl rfl ?_
    refine XS.iload Xn29.here hx rfl (hb hby own_d8_170) rfl ?_
    refine own_ldD Xn29 hx hZ en29 (own_en (m := 7) Bn27 rfl) 0 (by decide) (v := (.double x_r3_0)) et_r3_0 (g := (mkF m 172 (own_L59 tt d1 r2 r3 d4 d5) [(.int 0), (.ref r3), (.int 1), (.ref bk22_0)])) rfl rfl (hb hby own_d8_172) _ ?_
    show Steps p.tables e below (Tn29.setTop (mkF m 173 (own_L59 tt d1 r2 r3 d4 d5) [(.double x_r3_0), (.int 1), (.ref bk22_0)])) _
    refine stn30 _ ?_
    refine XS.aloadN Xn30.here hx rfl (hb hby own_d8_174) rfl rfl ?_
    refine XS.iload Xn30.here hx rfl (hb hby own_d8_175) rfl ?_
    refine XS.iload Xn30.here hx rfl (hb hby own_d8_177) rfl ?_
    refine XS.aload Xn30.here hx rfl (hb hby own_d8_179) rfl rfl ?_
    refine XS.iload Xn30.here hx rfl (hb hby own_d8_181) rfl ?_
    refine own_ldD Xn30 hx hZ en30 (own_en (m := 7) Bn30 rfl) 0 (by decide) (v := (.double x_r3_0)) et_r3_0 (g := (mkF m 183 (own_L59 tt d1 r2 r3 d4 d5) [(.int 0), (.ref r3), (.int 0), (.int 1), (.ref tt)])) rfl rfl (hb hby own_d8_183) _ ?_
    show Steps p.tables e below (Tn30.setTop (mkF m 184 (own_L59 tt d1 r2 r3 d4 d5) [(.double x_r3_0), (.int 0), (.int 1), (.ref tt)])) _
    refine stk31.trans ?_
    refine XS.iinc Xk31.here hx rfl (hb hby own_d8_187) rfl (l' := (own_L61 tt d1 r2 r3 d4 d5)) rfl ?_
    refine XS.goto Xk31.here hx rfl (pc0 := 190) (pc' := 64) rfl (hb hby own_d8_190) (by decide) (by decide) ?_
    refine XS.iload Xk31.here hx rfl (hb hby own_d8_64) rfl ?_
    refine XS.aloadN Xk31.here hx rfl (hb hby own_d8_66) rfl rfl ?_
    refine own_len Xk31 hx hZ rfl (own_en (m := 6) Bk31 rfl) (g := (mkF m 67 (own_L61 tt d1 r2 r3 d4 d5) [(.ref r2), (.int 1)])) rfl rfl (hb hby own_d8_67) _ ?_
    show Steps p.tables e below (Tk31.setTop (mkF m 68 (own_L61 tt d1 r2 r3 d4 d5) [(.int 1), (.int 1)])) _
    refine XS.icmpYes Xk31.here hx rfl (pc0 := 68) (pc' := 193) rfl (hb hby own_d8_68) rfl (XT.ii_ge_t (by decide : ¬ ((1 : Int32) < (1 : Int32)))) (by decide) (by decide) ?_
    refine XS.dconst0 Xk31.here hx rfl (hb hby own_d8_193) (v := (0 : UInt64)) (by decide +kernel) ?_
    refine XS.dstore Xk31.here hx rfl (hb hby own_d8_194) rfl (l' := (own_L62 tt d1 r2 r3 d4 d5)) rfl ?_
    refine XS.iconst Xk31.here hx rfl (hb hby own_d8_196) ?_
    refine XS.istore Xk31.here hx rfl (hb hby own_d8_197) rfl (l' := (own_L63 tt d1 r2 r3 d4 d5)) rfl ?_
    refine XS.iload Xk31.here hx rfl (hb hby own_d8_199) rfl ?_
    refine XS.aloadN Xk31.here hx rfl (hb hby own_d8_201) rfl rfl ?_
    refine own_len Xk31 hx hZ rfl (own_en (m := 6) Bk31 rfl) (g := (mkF m 202 (own_L63 tt d1 r2 r3 d4 d5) [(.ref r2), (.int 0)])) rfl rfl (hb hby own_d8_202) _ ?_
    show Steps p.tables e below (Tk31.setTop (mkF m 203 (own_L63 tt d1 r2 r3 d4 d5) [(.int 1), (.int 0)])) _
    refine XS.icmpNo Xk31.here hx rfl (hb hby own_d8_203) rfl (XT.ii_ge_f (by decide : (0 : Int32) < (1 : Int32))) ?_
    refine XS.aloadN Xk31.here hx rfl (hb hby own_d8_206) rfl rfl ?_
    refine stn33 _ ?_
    show Steps p.tables e below (Tn33.setTop (mkF m 210 (own_L63 tt d1 r2 r3 d4 d5) [(.ref (aA 3))])) _
    refine XS.aloadN Xn33.here hx rfl (hb hby own_d8_210) rfl rfl ?_
    refine XS.iload Xn33.here hx rfl (hb hby own_d8_211) rfl ?_
    refine own_ldI Xn33 hx hZ en33 (own_en (m := 6) Bk31 rfl) 0 (by decide) (v := (.int 0)) et_r2_0 (g := (mkF m 213 (own_L63 tt d1 r2 r3 d4 d5) [(.int 0), (.ref r2), (.ref (aA 3))])) rfl rfl (hb hby own_d8_213) _ ?_
    show Steps p.tables e below (Tn33.setTop (mkF m 214 (own_L63 tt d1 r2 r3 d4 d5) [(.int 0), (.ref (aA 3))])) _
    refine own_ldI Xn33 hx hZ en33 (own_pk Bk31 3 (by decide)) 0 (by decide) (v := (.int 0)) at_3_0 (g := (mkF m 214 (own_L63 tt d1 r2 r3 d4 d5) [(.int 0), (.ref (aA 3))])) rfl rfl (hb hby own_d8_214) _ ?_
    refine XS.istore Xn33.here hx rfl (hb hby own_d8_215) rfl (l' := (own_L64 tt d1 r2 r3 d4 d5)) rfl ?_
    refine XS.iload Xn33.here hx rfl (hb hby own_d8_217) rfl ?_
    refine XS.ifNo Xn33.here hx rfl (hb hby own_d8_219) rfl (XT.i0_lt_f (by decide : ¬ ((0 : Int32) < (0 : Int32)))) ?_
    refine XS.dload Xn33.here hx rfl (hb hby own_d8_222) rfl ?_
    refine XS.aload Xn33.here hx rfl (hb hby own_d8_224) rfl rfl ?_
    refine XS.iload Xn33.here hx rfl (hb hby own_d8_226) rfl ?_
    refine own_ldD Xn33 hx hZ en33 (own_en (m := 7) Bk31 rfl) 0 (by decide) (v := (.double x_r3_0)) et_r3_0 (g := (mkF m 228 (own_L64 tt d1 r2 r3 d4 d5) [(.int 0), (.ref r3), (.double 0)])) rfl rfl (hb hby own_d8_228) _ ?_
    show Steps p.tables e below (Tn33.setTop (mkF m 229 (own_L64 tt d1 r2 r3 d4 d5) [(.double x_r3_0), (.double 0)])) _
    refine XS.aloadN Xn33.here hx rfl (hb hby own_d8_229) rfl rfl ?_
    refine stn34 _ ?_
    refine XS.iload Xn34.here hx rfl (hb hby own_d8_233) rfl ?_
    refine own_ldD Xn34 hx hZ en34 (own_pk Bk31 13 (by decide)) 0 (by decide) (v := (.double x_13_0)) at_13_0 (g := (mkF m 235 (own_L64 tt d1 r2 r3 d4 d5) [(.int 0), (.ref (aA 13)), (.double x_r3_0), (.double 0)])) rfl rfl (hb hby own_d8_235) _ ?_
    show Steps p.tables e below (Tn34.setTop (mkF m 236 (own_L64 tt d1 r2 r3 d4 d5) [(.double x_13_0), (.double x_r3_0), (.double 0)])) _
    refine XS.dmulS Xn34.here hx rfl (hb hby own_d8_236) rfl nn236 rfl ?_
    refine XS.daddS Xn34.here hx rfl (hb hby own_d8_237) rfl nn237 rfl ?_
    refine XS.dstore Xn34.here hx rfl (hb hby own_d8_238) rfl (l' := (own_L65 tt d1 r2 r3 d4 d5 (own_v8b_0 x_r3_0 x_13_0))) rfl ?_
    refine XS.iinc Xn34.here hx rfl (hb hby own_d8_240) rfl (l' := (own_L66 tt d1 r2 r3 d4 d5 (own_v8b_0 x_r3_0 x_13_0))) rfl ?_
    refine XS.goto Xn34.here hx rfl (pc0 := 243) (pc' := 199) rfl (hb hby own_d8_243) (by decide) (by decide) ?_
    refine XS.iload Xn34.here hx rfl (hb hby own_d8_199) rfl ?_
    refine XS.aloadN Xn34.here hx rfl (hb hby own_d8_201) rfl rfl ?_
    refine own_len Xn34 hx hZ en34 (own_en (m := 6) Bk31 rfl) (g := (mkF m 202 (own_L66 tt d1 r2 r3 d4 d5 (own_v8b_0 x_r3_0 x_13_0)) [(.ref r2), (.int 1)])) rfl rfl (hb hby own_d8_202) _ ?_
    show Steps p.tables e below (Tn34.setTop (mkF m 203 (own_L66 tt d1 r2 r3 d4 d5 (own_v8b_0 x_r3_0 x_13_0)) [(.int 1), (.int 1)])) _
    refine XS.icmpYes Xn34.here hx rfl (pc0 := 203) (pc' := 246) rfl (hb hby own_d8_203) rfl (XT.ii_ge_t (by decide : ¬ ((1 : Int32) < (1 : Int32)))) (by decide) (by decide) ?_
    refine XS.dloadN Xn34.here hx rfl (hb hby own_d8_246) rfl ?_
    refine XS.dload Xn34.here hx rfl (hb hby own_d8_247) rfl ?_
    refine XS.dsubS Xn34.here hx rfl (hb hby own_d8_249) rfl nn249 rfl ?_
    refine XS.dload Xn34.here hx rfl (hb hby own_d8_250) rfl ?_
    refine XS.ddivS Xn34.here hx rfl (hb hby own_d8_252) rfl nn252 rfl ?_
    refine XS.dstore Xn34.here hx rfl (hb hby own_d8_253) rfl (l' := (own_L67 tt d1 r2 r3 d4 d5 (own_v8b_0 x_r3_0 x_13_0) (own_v8b_1 d1 d4 x_r3_0 x_13_0))) rfl ?_
    refine XS.dload Xn34.here hx rfl (hb hby own_d8_255) rfl ?_
    refine Xn34.ldc2DoubleC hx hown (mvT hZ (own_W hw 134 rfl)) (g := (mkF m 257 (own_L67 tt d1 r2 r3 d4 d5 (own_v8b_0 x_r3_0 x_13_0) (own_v8b_1 d1 d4 x_r3_0 x_13_0)) [(.double (own_v8b_1 d1 d4 x_r3_0 x_13_0))])) rfl (hb hby own_d8_257) _ ?_
    show Steps p.tables e below (Tn34.setTop (mkF m 260 (own_L67 tt d1 r2 r3 d4 d5 (own_v8b_0 x_r3_0 x_13_0) (own_v8b_1 d1 d4 x_r3_0 x_13_0)) [(.double 13695778570484766357), (.double (own_v8b_1 d1 d4 x_r3_0 x_13_0))])) _
    refine XS.dcmpS Xn34.here hx rfl (hb hby own_d8_260) rfl rfl ?_
    refine XS.ifYes Xn34.here hx rfl (pc0 := 261) (pc' := 279) rfl (hb hby own_d8_261) rfl (XT.i0_ge_t hc261) (by decide) (by decide) ?_
    refine XS.aloadN Xn34.here hx rfl (hb hby own_d8_279) rfl rfl ?_
    refine XS.dup Xn34.here hx rfl (hb hby own_d8_280) rfl rfl ?_
    refine stn35 _ ?_
    show Steps p.tables e below (Tn35.setTop (mkF m 284 (own_L67 tt d1 r2 r3 d4 d5 (own_v8b_0 x_r3_0 x_13_0) (own_v8b_1 d1 d4 x_r3_0 x_13_0)) [(.int 1), (.ref tt)])) _
    refine XS.iconst Xn35.here hx rfl (hb hby own_d8_284) ?_
    refine XS.iadd Xn35.here hx rfl (hb hby own_d8_285) rfl ?_
    refine stn36 _ ?_
    show Steps p.tables e below (Tn36.setTop (mkF m 289 (own_L67 tt d1 r2 r3 d4 d5 (own_v8b_0 x_r3_0 x_13_0) (own_v8b_1 d1 d4 x_r3_0 x_13_0)) [])) _
    refine XS.aloadN Xn36.here hx rfl (hb hby own_d8_289) rfl rfl ?_
    refine XS.iconst Xn36.here hx rfl (hb hby own_d8_290) ?_
    refine stn37 _ ?_
    show Steps p.tables e below (Tn37.setTop (mkF m 294 (own_L67 tt d1 r2 r3 d4 d5 (own_v8b_0 x_r3_0 x_13_0) (own_v8b_1 d1 d4 x_r3_0 x_13_0)) [])) _
    refine XS.aloadN Xn37.here hx rfl (hb hby own_d8_294) rfl rfl ?_
    refine XS.iconst Xn37.here hx rfl (hb hby own_d8_295) ?_
    refine stn38 _ ?_
    show Steps p.tables e below (Tn38.setTop (mkF m 299 (own_L67 tt d1 r2 r3 d4 d5 (own_v8b_0 x_r3_0 x_13_0) (own_v8b_1 d1 d4 x_r3_0 x_13_0)) [])) _
    refine XS.aloadN Xn38.here hx rfl (hb hby own_d8_299) rfl rfl ?_
    refine XS.iconst Xn38.here hx rfl (hb hby own_d8_300) ?_
    refine stn39 _ ?_
    show Steps p.tables e below (Tn39.setTop (mkF m 303 (own_L67 tt d1 r2 r3 d4 d5 (own_v8b_0 x_r3_0 x_13_0) (own_v8b_1 d1 d4 x_r3_0 x_13_0)) [(.ref bn39), (.ref tt)])) _
    refine XS.dup Xn39.here hx rfl (hb hby own_d8_303) rfl rfl ?_
    refine XS.iconst Xn39.here hx rfl (hb hby own_d8_304) ?_
    refine XS.iload Xn39.here hx rfl (hb hby own_d8_305) rfl ?_
    refine stn40 _ ?_
    show Steps p.tables e below (Tn40.setTop (mkF m 308 (own_L67 tt d1 r2 r3 d4 d5 (own_v8b_0 x_r3_0 x_13_0) (own_v8b_1 d1 d4 x_r3_0 x_13_0)) [(.ref bn39), (.ref tt)])) _
    refine XS.iconst Xn40.here hx rfl (hb hby own_d8_308) ?_
    refine stn41 _ ?_
    refine XS.dup Xn41.here hx rfl (hb hby own_d8_311) rfl rfl ?_
    refine XS.iconst Xn41.here hx rfl (hb hby own_d8_312) ?_
    refine XS.dload Xn41.here hx rfl (hb hby own_d8_313) rfl ?_
    refine stn42 _ ?_
    show Steps p.tables e below (Tn42.setTop (mkF m 316 (own_L67 tt d1 r2 r3 d4 d5 (own_v8b_0 x_r3_0 x_13_0) (own_v8b_1 d1 d4 x_r3_0 x_13_0)) [(.ref bn41), (.ref bn39), (.ref tt)])) _
    refine XS.dload Xn42.here hx rfl (hb hby own_d8_316) rfl ?_
    refine stk43.trans ?_
    refine XS.istore Xk43.here hx rfl (hb hby own_d8_321) rfl (l' := (own_L72 tt d1 r2 r3 d4 d5 (own_v8b_0 x_r3_0 x_13_0) (own_v8b_1 d1 d4 x_r3_0 x_13_0))) rfl ?_
    refine XS.aloadN Xk43.here hx rfl (hb hby own_d8_323) rfl rfl ?_
    refine stn45 _ ?_
    show Steps p.tables e below (Tn45.setTop (mkF m 327 (own_L72 tt d1 r2 r3 d4 d5 (own_v8b_0 x_r3_0 x_13_0) (own_v8b_1 d1 d4 x_r3_0 x_13_0)) [(.ref (aA 11))])) _
    refine XS.iload Xn45.here hx rfl (hb hby own_d8_327) rfl ?_
    refine XS.dloadN Xn45.here hx rfl (hb hby own_d8_329) rfl ?_
    refine stn46 _ ?_
    show Steps p.tables e below (Tn46.setTop (mkF m 331 (own_L72 tt d1 r2 r3 d4 d5 (own_v8b_0 x_r3_0 x_13_0) (own_v8b_1 d1 d4 x_r3_0 x_13_0)) [])) _
    refine XS.aloadN Xn46.here hx rfl (hb hby own_d8_331) rfl rfl ?_
    refine stn47 _ ?_
    refine XS.iload Xn47.here hx rfl (hb hby own_d8_335) rfl ?_
    refine XS.iload Xn47.here hx rfl (hb hby own_d8_337) rfl ?_
    refine stn48 _ ?_
    show Steps p.tables e below (Tn48.setTop (mkF m 340 (own_L72 tt d1 r2 r3 d4 d5 (own_v8b_0 x_r3_0 x_13_0) (own_v8b_1 d1 d4 x_r3_0 x_13_0)) [])) _
    refine XS.aloadN Xn48.here hx rfl (hb hby own_d8_340) rfl rfl ?_
    refine stn49 _ ?_
    refine XS.iload Xn49.here hx rfl (hb hby own_d8_344) rfl ?_
    refine XS.dconst0 Xn49.here hx rfl (hb hby own_d8_346) (v := (0 : UInt64)) (by decide +kernel) ?_
    show Steps p.tables e below (Tn49.setTop (mkF m 347 (own_L72 tt d1 r2 r3 d4 d5 (own_v8b_0 x_r3_0 x_13_0) (own_v8b_1 d1 d4 x_r3_0 x_13_0)) [(.double 0), (.int 1), (.ref (aA 13))])) _
    refine XS.dload Xn49.here hx rfl (hb hby own_d8_347) rfl ?_
    refine stk50 _ ?_
    refine stn51 _ ?_
    show Steps p.tables e below (Tn51.setTop (mkF m 353 (own_L72 tt d1 r2 r3 d4 d5 (own_v8b_0 x_r3_0 x_13_0) (own_v8b_1 d1 d4 x_r3_0 x_13_0)) [])) _
    refine XS.aloadN Xn51.here hx rfl (hb hby own_d8_353) rfl rfl ?_
    refine stn52 _ ?_
    refine XS.iload Xn52.here hx rfl (hb hby own_d8_357) rfl ?_
    refine XS.iload Xn52.here hx rfl (hb hby own_d8_359) rfl ?_
    refine stn53 _ ?_
    show Steps p.tables e below (Tn53.setTop (mkF m 362 (own_L72 tt d1 r2 r3 d4 d5 (own_v8b_0 x_r3_0 x_13_0) (own_v8b_1 d1 d4 x_r3_0 x_13_0)) [])) _
    refine XS.iload Xn53.here hx rfl (hb hby own_d8_362) rfl ?_
    show Steps p.tables e below (Tn53.setTop (mkF m 364 (own_L72 tt d1 r2 r3 d4 d5 (own_v8b_0 x_r3_0 x_13_0) (own_v8b_1 d1 d4 x_r3_0 x_13_0)) [(.int 2)])) _
    exact retI Xn53 hx Bd.returns (hb hby own_d8_364) hr
  · show own_Q8b Z tt aA aK aF aV aJ d1 f_r2 r2 k_r2 f_r3 r3 k_r3 d4 d5 y2 k_y2 y3 k_y3 y4 k_y4 y5 k_y5 x_r3_0 x_13_0 h0 n0 _ Tn53.heap _
    rw [en53]
    exact ⟨bk43_0, kn41, bk43_1, kn39, bn5, kn5, bn9, kn9, bk22_0, kk22_1, bk16_0, kk16_1, rfl, Nn53, (own_R_pick Bn53 14 [0, 1, 4, 5, 6, 8, 10, 11, 9, 7, 12, 13] trivial (by decide) (by decide))⟩
def own_L73 (x0 : Int32) (x1 : Int32) (x2 : Int32) (x3 : Int32) (x4 : Int32) (x5 : Int32) (x6 : Int32) (x7 : Int32) (x8 : Int32) (x9 : Int32) (x10 : Int32) (x11 : Int32) (x12 : Int32) (x13 : Int32) (x14 : Int32) (x15 : Addr) (x16 : Int64) (x17 : Int64) (x18 : Int64) (x19 : Int64) : Array Slot := #[.val (.int x0), .val (.int x1), .val (.int x2), .val (.int x3), .val (.int x4), .val (.int x5), .val (.int x6), .val (.int x7), .val (.int x8), .val (.int x9), .val (.int x10), .val (.int x11), .val (.int x12), .val (.int 2), .val (.int x13), .val (.int x14), .val (.int 2), .val (.int 0), .val (.ref x15), .val (.long x16), .second, .val (.int 0), .val (.long x17), .second, .val (.long x18), .second, .val (.long x19), .second]
def own_L74 (x0 : Addr) (x1 : UInt64) : Array Slot := #[.val (.ref x0), .val (.double x1), .second, .val (.int 2)]
def own_v7c_0 (x_2_0 : UInt64) (x_13_0 : UInt64) : UInt64 := (FP.dadd (0 : UInt64) (FP.dmul x_2_0 x_13_0))
def own_v7c_1 (x_2_0 : UInt64) (x_13_0 : UInt64) (x_2_2 : UInt64) (x_13_1 : UInt64) : UInt64 := (FP.dadd (own_v7c_0 x_2_0 x_13_0) (FP.dmul x_2_2 x_13_1))
def own_r7c_2 (x_2_0 : UInt64) (x_13_0 : UInt64) (x_2_2 : UInt64) (x_13_1 : UInt64) : UInt64 := (own_v7c_1 x_2_0 x_13_0 x_2_2 x_13_1)
theorem own_ef7c (m : MethodId) (tt : Addr) : entryFrame m #[(.ref tt)] 4 = mkF m 0 #[.val (.ref tt), .unset, .unset, .unset] [] := by first | (simp [entryFrame, mkF, argsToLocals, Value.category]; done) | rfl
def own_Q7c (Z : State) (tt : Addr) (aA : Nat → Addr) (aK : Nat → ClassId) (aF : Nat → Nat → Value) (aV : Nat → Value) (aJ : List own_e) (x_2_0 : UInt64) (x_13_0 : UInt64) (x_2_2 : UInt64) (x_13_1 : UInt64) (h0 : Heap) (n0 : Nat) (v : Option Value) (h : Heap) (L : List Loc) : Prop := v = some (.double (own_r7c_2 x_2_0 x_13_0 x_2_2 x_13_1)) ∧ Fr n0 L ∧ own_R 15 Z n0 h tt aA aK aF aV (aJ)
set_option maxRecDepth 65536 in
set_option maxHeartbeats 40000000 in
theorem own_rm7c (l : Launch) (Z : State) (a0 : Array Value) (hw : ∀ d ∈ tables_1, d.before a0 Z = true) (ws : List Jvm.Cond) (tt : Addr) (aA : Nat → Addr) (aK : Nat → ClassId) (aF : Nat → Nat → Value) (aV : Nat → Value) (aJ : List own_e) (x_2_0 : UInt64) (x_13_0 : UInt64) (x_2_2 : UInt64) (x_13_1 : UInt64) (h0 : Heap) (n0 : Nat) (Z0 : n0 ≤ h0.size) (B0 : own_R 15 Z n0 h0 tt aA aK aF aV (aJ)) (vt_17 : aV 17 = (.int 2)) (at_12_0 : aF 12 0 = (.int 0)) (at_2_0 : aF 2 0 = (.double x_2_0)) (at_13_0 : aF 13 0 = (.double x_13_0)) (nn30 : NoNaN64 (FP.dmul x_2_0 x_13_0)) (nn31 : NoNaN64 (FP.dadd (0 : UInt64) (FP.dmul x_2_0 x_13_0))) (at_12_1 : aF 12 1 = (.int 2)) (at_2_2 : aF 2 2 = (.double x_2_2)) (at_13_1 : aF 13 1 = (.double x_13_1)) (nn30_2 : NoNaN64 (FP.dmul x_2_2 x_13_1)) (nn31_2 : NoNaN64 (FP.dadd (own_v7c_0 x_2_0 x_13_0) (FP.dmul x_2_2 x_13_1))) :
    MetFree l (⟨"com/example/placewright/placewright/solver/RevisedSimplex", "objective", "()D"⟩ : MethodName) (head1 (Jvm.Cond.code (⟨"com/example/placewright/placewright/solver/RevisedSimplex", "objective", "()D"⟩ : MethodName) prog_29_method_11_code 4 (some .double) :: ws) ({ frames := 0, cells := 0, slots := 0, locals := 0 } : Room)) (fun a U => a = #[(.ref tt)] ∧ Z.Warmed39 U.vm ∧ U.heap = h0) (fun _ _ _ _ _ => True) (fun _ U o U' => ∃ v L, o = .returned v ∧ own_Q7c Z tt aA aK aF aV aJ x_2_0 x_13_0 x_2_2 x_13_1 h0 n0 v U'.heap L ∧ FrameEnd U o U' L ({ frames := 0, cells := 0, slots := 0, locals := 0 } : Room).cells ({ frames := 0, cells := 0, slots := 0, locals := 0 } : Room).slots) := by
  refine MetFree.of_bodySF (plainFor_of_name own_pn4) hisR ?_
  intro p e s m args below meth c s₁ Bd hml0 hP hK
  obtain ⟨rfl, hZ, hh⟩ := hP
  have hx := Bd.exec
  have hby := Bd.bytes
  have hml : c.maxLocals = 4 := hml0
  have hown : s.vm.findClass "com/example/placewright/placewright/solver/RevisedSimplex" = some m.cls := findClass_of_methodNamed Bd.named
  have hnm := (name_of_methodNamed Bd.named Bd.method).1
  have X0 : Stand p l e ({ frames := 0, cells := 0, slots := 0, locals := 0 } : Room) s m #[(.ref tt)] below meth c s₁ [] 0 0 := Stand.of_body Bd
  have e0 : s₁.heap = h0 := by rw [← hh, Bd.state]; rfl
  have N0 := Fr.nil n0
  have Zr : h0.size ≤ h0.size := Nat.le_refl _
  have pre0 : ∀ t, Steps p.tables e below (s₁.setTop (mkF m 0 #[.val (.ref tt), .unset, .unset, .unset] [])) t → Steps p.tables e below (s₁.setTop (entryFrame m #[(.ref tt)] 4)) t := fun t k => castTop (own_ef7c m tt) k
  obtain ⟨Tn1, Xn1, en1, stn1⟩ := getF X0 hx hZ hown (host := "") (Or.inl (own_W hw 121 rfl)) Via.refl e0 (own_gs (v := (.int 2)) B0 17 (by decide) vt_17) (g := (mkF m 6 (own_L16 tt) [(.ref tt), (.int 0)])) rfl rfl (hb hby own_d7_6)
  obtain ⟨Tn2, Xn2, en2, stn2⟩ := getF Xn1 hx hZ hown (host := "") (Or.inl (own_W hw 23 rfl)) Via.refl en1 (own_ga B0 2 (by decide) (by decide)) (g := (mkF m 14 (own_L16 tt) [(.ref tt), (.double 0)])) rfl rfl (hb hby own_d7_14)
  obtain ⟨Tn3, Xn3, en3, stn3⟩ := getF Xn2 hx hZ hown (host := "") (Or.inl (own_W hw 47 rfl)) Via.refl en2 (own_ga B0 12 (by decide) (by decide)) (g := (mkF m 18 (own_L16 tt) [(.ref tt), (.ref (aA 2)), (.double 0)])) rfl rfl (hb hby own_d7_18)
  obtain ⟨Tn4, Xn4, en4, stn4⟩ := getF Xn3 hx hZ hown (host := "") (Or.inl (own_W hw 49 rfl)) Via.refl en3 (own_ga B0 13 (by decide) (by decide)) (g := (mkF m 25 (own_L16 tt) [(.ref tt), (.double x_2_0), (.double 0)])) rfl rfl (hb hby own_d7_25)
  obtain ⟨Tn5, Xn5, en5, stn5⟩ := getF Xn4 hx hZ hown (host := "") (Or.inl (own_W hw 121 rfl)) Via.refl en4 (own_gs (v := (.int 2)) B0 17 (by decide) vt_17) (g := (mkF m 6 (own_L45 tt (own_v7c_0 x_2_0 x_13_0)) [(.ref tt), (.int 1)])) rfl rfl (hb hby own_d7_6)
  obtain ⟨Tn6, Xn6, en6, stn6⟩ := getF Xn5 hx hZ hown (host := "") (Or.inl (own_W hw 23 rfl)) Via.refl en5 (own_ga B0 2 (by decide) (by decide)) (g := (mkF m 14 (own_L45 tt (own_v7c_0 x_2_0 x_13_0)) [(.ref tt), (.double (own_v7c_0 x_2_0 x_13_0))])) rfl rfl (hb hby own_d7_14)
  obtain ⟨Tn7, Xn7, en7, stn7⟩ := getF Xn6 hx hZ hown (host := "") (Or.inl (own_W hw 47 rfl)) Via.refl en6 (own_ga B0 12 (by decide) (by decide)) (g := (mkF m 18 (own_L45 tt (own_v7c_0 x_2_0 x_13_0)) [(.ref tt), (.ref (aA 2)), (.double (own_v7c_0 x_2_0 x_13_0))])) rfl rfl (hb hby own_d7_18)
  obtain ⟨Tn8, Xn8, en8, stn8⟩ := getF Xn7 hx hZ hown (host := "") (Or.inl (own_W hw 49 rfl)) Via.refl en7 (own_ga B0 13 (by decide) (by decide)) (g := (mkF m 25 (own_L45 tt (own_v7c_0 x_2_0 x_13_0)) [(.ref tt), (.double x_2_2), (.double (own_v7c_0 x_2_0 x_13_0))])) rfl rfl (hb hby own_d7_25)
  obtain ⟨Tn9, Xn9, en9, stn9⟩ := getF Xn8 hx hZ hown (host := "") (Or.inl (own_W hw 121 rfl)) Via.refl en8 (own_gs (v := (.int 2)) B0 17 (by decide) vt_17) (g := (mkF m 6 (own_L74 tt (own_v7c_1 x_2_0 x_13_0 x_2_2 x_13_1)) [(.ref tt), (.int 2)])) rfl rfl (hb hby own_d7_6)
  obtain ⟨fs, hr, hrun, hended, hW, hsame⟩ := Xn9.leave (v := some (.double (own_v7c_1 x_2_0 x_13_0 x_2_2 x_13_1))) (fun h => by rw [Bd.returns] at h; cases h)
  refine ⟨_, _, pre0 _ (?_), hrun, hended, _, _, rfl, ?_, ⟨_, rfl⟩, hW, hsame.mono (by decide) (by decide)⟩
  · show Steps p.tables e below (s₁.setTop (mkF m 0 #[.val (.ref tt), .unset, .unset, .unset] [])) _
    refine XS.dconst0 X0.here hx rfl (hb hby own_d7_0) (v := (0 : UInt64)) (by decide +kernel) ?_
    refine XS.dstoreN X0.here hx rfl (hb hby own_d7_1) rfl (l' := #[.val (.ref tt), .val (.double 0), .second, .unset]) rfl ?_
    refine XS.iconst X0.here hx rfl (hb hby own_d7_2) ?_
    refine XS.istoreN X0.here hx rfl (hb hby own_d7_3) rfl (l' := (own_L16 tt)) rfl ?_
    refine XS.iloadN X0.here hx rfl (hb hby own_d7_4) rfl ?_
    refine XS.aloadN X0.here hx rfl (hb hby own_d7_5) rfl rfl ?_
    refine stn1 _ ?_
    show Steps p.tables e below (Tn1.setTop (mkF m 9 (own_L16 tt) [(.int 2), (.int 0)])) _
    refine XS.icmpNo Xn1.here hx rfl (hb hby own_d7_9) rfl (XT.ii_ge_f (by decide : (0 : Int32) < (2 : Int32))) ?_
    refine XS.dloadN Xn1.here hx rfl (hb hby own_d7_12) rfl ?_
    refine XS.aloadN Xn1.here hx rfl (hb hby own_d7_13) rfl rfl ?_
    refine stn2 _ ?_
    show Steps p.tables e below (Tn2.setTop (mkF m 17 (own_L16 tt) [(.ref (aA 2)), (.double 0)])) _
    refine XS.aloadN Xn2.here hx rfl (hb hby own_d7_17) rfl rfl ?_
    refine stn3 _ ?_
    refine XS.iloadN Xn3.here hx rfl (hb hby own_d7_21) rfl ?_
    refine own_ldI Xn3 hx hZ en3 (own_pk B0 12 (by decide)) 0 (by decide) (v := (.int 0)) at_12_0 (g := (mkF m 22 (own_L16 tt) [(.int 0), (.ref (aA 12)), (.ref (aA 2)), (.double 0)])) rfl rfl (hb hby own_d7_22) _ ?_
    show Steps p.tables e below (Tn3.setTop (mkF m 23 (own_L16 tt) [(.int 0), (.ref (aA 2)), (.double 0)])) _
    refine own_ldD Xn3 hx hZ en3 (own_pk B0 2 (by decide)) 0 (by decide) (v := (.double x_2_0)) at_2_0 (g := (mkF m 23 (own_L16 tt) [(.int 0), (.ref (aA 2)), (.double 0)])) rfl rfl (hb hby own_d7_23) _ ?_
    refine XS.aloadN Xn3.here hx rfl (hb hby own_d7_24) rfl rfl ?_
    refine stn4 _ ?_
    show Steps p.tables e below (Tn4.setTop (mkF m 28 (own_L16 tt) [(.ref (aA 13)), (.double x_2_0), (.double 0)])) _
    refine XS.iloadN Xn4.here hx rfl (hb hby own_d7_28) rfl ?_
    refine own_ldD Xn4 hx hZ en4 (own_pk B0 13 (by decide)) 0 (by decide) (v := (.double x_13_0)) at_13_0 (g := (mkF m 29 (own_L16 tt) [(.int 0), (.ref (aA 13)), (.double x_2_0), (.double 0)])) rfl rfl (hb hby own_d7_29) _ ?_
    refine XS.dmulS Xn4.here hx rfl (hb hby own_d7_30) rfl nn30 rfl ?_
    refine XS.daddS Xn4.here hx rfl (hb hby own_d7_31) rfl nn31 rfl ?_
    refine XS.dstoreN Xn4.here hx rfl (hb hby own_d7_32) rfl (l' := (own_L44 tt (own_v7c_0 x_2_0 x_13_0))) rfl ?_
    refine XS.iinc Xn4.here hx rfl (hb hby own_d7_33) rfl (l' := (own_L45 tt (own_v7c_0 x_2_0 x_13_0))) rfl ?_
    refine XS.goto Xn4.here hx rfl (pc0 := 36) (pc' := 4) rfl (hb hby own_d7_36) (by decide) (by decide) ?_
    refine XS.iloadN Xn4.here hx rfl (hb hby own_d7_4) rfl ?_
    refine XS.aloadN Xn4.here hx rfl (hb hby own_d7_5) rfl rfl ?_
    refine stn5 _ ?_
    show Steps p.tables e below (Tn5.setTop (mkF m 9 (own_L45 tt (own_v7c_0 x_2_0 x_13_0)) [(.int 2), (.int 1)])) _
    refine XS.icmpNo Xn5.here hx rfl (hb hby own_d7_9) rfl (XT.ii_ge_f (by decide : (1 : Int32) < (2 : Int32))) ?_
    refine XS.dloadN Xn5.here hx rfl (hb hby own_d7_12) rfl ?_
    refine XS.aloadN Xn5.here hx rfl (hb hby own_d7_13) rfl rfl ?_
    refine stn6 _ ?_
    show Steps p.tables e below (Tn6.setTop (mkF m 17 (own_L45 tt (own_v7c_0 x_2_0 x_13_0)) [(.ref (aA 2)), (.double (own_v7c_0 x_2_0 x_13_0))])) _
    refine XS.aloadN Xn6.here hx rfl (hb hby own_d7_17) rfl rfl ?_
    refine stn7 _ ?_
    refine XS.iloadN Xn7.here hx rfl (hb hby own_d7_21) rfl ?_
    refine own_ldI Xn7 hx hZ en7 (own_pk B0 12 (by decide)) 1 (by decide) (v := (.int 2)) at_12_1 (g := (mkF m 22 (own_L45 tt (own_v7c_0 x_2_0 x_13_0)) [(.int 1), (.ref (aA 12)), (.ref (aA 2)), (.double (own_v7c_0 x_2_0 x_13_0))])) rfl rfl (hb hby own_d7_22) _ ?_
    show Steps p.tables e below (Tn7.setTop (mkF m 23 (own_L45 tt (own_v7c_0 x_2_0 x_13_0)) [(.int 2), (.ref (aA 2)), (.double (own_v7c_0 x_2_0 x_13_0))])) _
    refine own_ldD Xn7 hx hZ en7 (own_pk B0 2 (by decide)) 2 (by decide) (v := (.double x_2_2)) at_2_2 (g := (mkF m 23 (own_L45 tt (own_v7c_0 x_2_0 x_13_0)) [(.int 2), (.ref (aA 2)), (.double (own_v7c_0 x_2_0 x_13_0))])) rfl rfl (hb hby own_d7_23) _ ?_
    refine XS.aloadN Xn7.here hx rfl (hb hby own_d7_24) rfl rfl ?_
    refine stn8 _ ?_
    show Steps p.tables e below (Tn8.setTop (mkF m 28 (own_L45 tt (own_v7c_0 x_2_0 x_13_0)) [(.ref (aA 13)), (.double x_2_2), (.double (own_v7c_0 x_2_0 x_13_0))])) _
    refine XS.iloadN Xn8.here hx rfl (hb hby own_d7_28) rfl ?_
    refine own_ldD Xn8 hx hZ en8 (own_pk B0 13 (by decide)) 1 (by decide) (v := (.double x_13_1)) at_13_1 (g := (mkF m 29 (own_L45 tt (own_v7c_0 x_2_0 x_13_0)) [(.int 1), (.ref (aA 13)), (.double x_2_2), (.double (own_v7c_0 x_2_0 x_13_0))])) rfl rfl (hb hby own_d7_29) _ ?_
    refine XS.dmulS Xn8.here hx rfl (hb hby own_d7_30) rfl nn30_2 rfl ?_
    refine XS.daddS Xn8.here hx rfl (hb hby own_d7_31) rfl nn31_2 rfl ?_
    refine XS.dstoreN Xn8.here hx rfl (hb hby own_d7_32) rfl (l' := (own_L45 tt (own_v7c_1 x_2_0 x_13_0 x_2_2 x_13_1))) rfl ?_
    refine XS.iinc Xn8.here hx rfl (hb hby own_d7_33) rfl (l' := (own_L74 tt (own_v7c_1 x_2_0 x_13_0 x_2_2 x_13_1))) rfl ?_
    refine XS.goto Xn8.here hx rfl (pc0 := 36) (pc' := 4) rfl (hb hby own_d7_36) (by decide) (by decide) ?_
    refine XS.iloadN Xn8.here hx rfl (hb hby own_d7_4) rfl ?_
    refine XS.aloadN Xn8.here hx rfl (hb hby own_d7_5) rfl rfl ?_
    refine stn9 _ ?_
    show Steps p.tables e below (Tn9.setTop (mkF m 9 (own_L74 tt (own_v7c_1 x_2_0 x_13_0 x_2_2 x_13_1)) [(.int 2), (.int 2)])) _
    refine XS.icmpYes Xn9.here hx rfl (pc0 := 9) (pc' := 39) rfl (hb hby own_d7_9) rfl (XT.ii_ge_t (by decide : ¬ ((2 : Int32) < (2 : Int32)))) (by decide) (by decide) ?_
    refine XS.dloadN Xn9.here hx rfl (hb hby own_d7_39) rfl ?_
    show Steps p.tables e below (Tn9.setTop (mkF m 40 (own_L74 tt (own_v7c_1 x_2_0 x_13_0 x_2_2 x_13_1)) [(.double (own_v7c_1 x_2_0 x_13_0 x_2_2 x_13_1))])) _
    exact own_retD Xn9 hx Bd.returns (hb hby own_d7_40) hr
  · show own_Q7c Z tt aA aK aF aV aJ x_2_0 x_13_0 x_2_2 x_13_1 h0 n0 _ Tn9.heap _
    rw [en9]
    exact ⟨rfl, N0, B0⟩
def own_L75 (x0 : Int32) (x1 : Int32) (x2 : Int32) (x3 : Int32) (x4 : Int32) (x5 : Int32) (x6 : Int32) (x7 : Int32) (x8 : Int32) (x9 : Int32) (x10 : Int32) (x11 : Int32) (x12 : Int32) : Array Slot := #[.val (.int x0), .val (.int x1), .val (.int x2), .val (.int x3), .val (.int x4), .val (.int x5), .val (.int x6), .val (.int x7), .val (.int x8), .val (.int x9), .val (.int x10), .val (.int x11), .val (.int x12), .val (.int 3), .unset, .unset, .unset, .unset, .unset, .unset, .unset, .unset, .unset, .unset, .unset, .unset, .unset, .unset]
def own_L76 (x0 : Int32) (x1 : Int32) (x2 : Int32) (x3 : Int32) (x4 : Int32) (x5 : Int32) (x6 : Int32) (x7 : Int32) (x8 : Int32) (x9 : Int32) (x10 : Int32) (x11 : Int32) (x12 : Int32) (x13 : Int32) : Array Slot := #[.val (.int x0), .val (.int x1), .val (.int x2), .val (.int x3), .val (.int x4), .val (.int x5), .val (.int x6), .val (.int x7), .val (.int x8), .val (.int x9), .val (.int x10), .val (.int x11), .val (.int x12), .val (.int 3), .val (.int x13), .unset, .unset, .unset, .unset, .unset, .unset, .unset, .unset, .unset, .unset, .unset, .unset, .unset]
def own_L77 (x0 : Int32) (x1 : Int32) (x2 : Int32) (x3 : Int32) (x4 : Int32) (x5 : Int32) (x6 : Int32) (x7 : Int32) (x8 : Int32) (x9 : Int32) (x10 : Int32) (x11 : Int32) (x12 : Int32) (x13 : Int32) (x14 : Int32) : Array Slot := #[.val (.int x0), .val (.int x1), .val (.int x2), .val (.int x3), .val (.int x4), .val (.int x5), .val (.int x6), .val (.int x7), .val (.int x8), .val (.int x9), .val (.int x10), .val (.int x11), .val (.int x12), .val (.int 3), .val (.int x13), .val (.int x14), .unset, .unset, .unset, .unset, .unset, .unset, .unset, .unset, .unset, .unset, .unset, .unset]
theorem own_d1_9 : decode jdk_29_method_69_code 9 = .ok (.iload_n 1, 1) := by decide +kernel
theorem own_ef1_3_2 (m : MethodId) : entryFrame m #[(.int 3), (.int 2)] 2 = mkF m 0 #[.val (.int 3), .val (.int 2)] [] := by first | (simp [entryFrame, mkF, argsToLocals, Value.category]; done) | rfl
def own_Q1_3_2 (Z : State) (h0 : Heap) (n0 : Nat) (v : Option Value) (h : Heap) (L : List Loc) : Prop := v = some (.int 2) ∧ Fr n0 L ∧ h = h0
set_option maxRecDepth 65536 in
set_option maxHeartbeats 40000000 in
theorem own_rm1_3_2 (l : Launch) (Z : State) (a0 : Array Value) (hw : ∀ d ∈ tables_1, d.before a0 Z = true) (ws : List Jvm.Cond) (h0 : Heap) (n0 : Nat) (Z0 : n0 ≤ h0.size) :
    MetFree l (⟨"java/lang/Math", "min", "(II)I"⟩ : MethodName) (head1 (Jvm.Cond.code (⟨"java/lang/Math", "min", "(II)I"⟩ : MethodName) jdk_29_method_69_code 2 (some .int) :: ws) ({ frames := 0, cells := 0, slots := 0, locals := 0 } : Room)) (fun a U => a = #[(.int 3), (.int 2)] ∧ Z.Warmed39 U.vm ∧ U.heap = h0) (fun _ _ _ _ _ => True) (fun _ U o U' => ∃ v L, o = .returned v ∧ own_Q1_3_2 Z  h0 n0 v U'.heap L ∧ FrameEnd U o U' L ({ frames := 0, cells := 0, slots := 0, locals := 0 } : Room).cells ({ frames := 0, cells := 0, slots := 0, locals := 0 } : Room).slots) := by
  refine MetFree.of_bodySF (Jvm.Free.JP.mathPlain rfl (by decide +kernel)) hisR ?_
  intro p e s m args below meth c s₁ Bd hml0 hP hK
  obtain ⟨rfl, hZ, hh⟩ := hP
  have hx := Bd.exec
  have hby := Bd.bytes
  have hml : c.maxLocals = 2 := hml0
  have hown : s.vm.findClass "java/lang/Math" = some m.cls := findClass_of_methodNamed Bd.named
  have hnm := (name_of_methodNamed Bd.named Bd.method).1
  have X0 : Stand p l e ({ frames := 0, cells := 0, slots := 0, locals := 0 } : Room) s m #[(.int 3), (.int 2)] below meth c s₁ [] 0 0 := Stand.of_body Bd
  have e0 : s₁.heap = h0 := by rw [← hh, Bd.state]; rfl
  have N0 := Fr.nil n0
  have Zr : h0.size ≤ h0.size := Nat.le_refl _
  have pre0 : ∀ t, Steps p.tables e below (s₁.setTop (mkF m 0 #[.val (.int 3), .val (.int 2)] [])) t → Steps p.tables e below (s₁.setTop (entryFrame m #[(.int 3), (.int 2)] 2)) t := fun t k => castTop (own_ef1_3_2 m) k
  obtain ⟨fs, hr, hrun, hended, hW, hsame⟩ := X0.leave (v := some (.int 2)) (fun h => by rw [Bd.returns] at h; cases h)
  refine ⟨_, _, pre0 _ (?_), hrun, hended, _, _, rfl, ?_, ⟨_, rfl⟩, hW, hsame.mono (by decide) (by decide)⟩
  · show Steps p.tables e below (s₁.setTop (mkF m 0 #[.val (.int 3), .val (.int 2)] [])) _
    refine XS.iloadN X0.here hx rfl (hb hby own_d1_0) rfl ?_
    refine XS.iloadN X0.here hx rfl (hb hby own_d1_1) rfl ?_
    refine XS.icmpYes X0.here hx rfl (pc0 := 2) (pc' := 9) rfl (hb hby own_d1_2) rfl (XT.ii_gt_t (by decide : (2 : Int32) < (3 : Int32))) (by decide) (by decide) ?_
    refine XS.iloadN X0.here hx rfl (hb hby own_d1_9) rfl ?_
    show Steps p.tables e below (s₁.setTop (mkF m 10 #[.val (.int 3), .val (.int 2)] [(.int 2)])) _
    exact retI X0 hx Bd.returns (hb hby own_d1_10) hr
  · show own_Q1_3_2 Z  h0 n0 _ s₁.heap _
    rw [e0]
    exact ⟨rfl, N0, rfl⟩
def own_L78 (x0 : Int32) (x1 : Int32) (x2 : Int32) (x3 : Int32) (x4 : Int32) (x5 : Int32) (x6 : Int32) (x7 : Int32) (x8 : Int32) (x9 : Int32) (x10 : Int32) (x11 : Int32) (x12 : Int32) (x13 : Int32) (x14 : Int32) : Array Slot := #[.val (.int x0), .val (.int x1), .val (.int x2), .val (.int x3), .val (.int x4), .val (.int x5), .val (.int x6), .val (.int x7), .val (.int x8), .val (.int x9), .val (.int x10), .val (.int x11), .val (.int x12), .val (.int 3), .val (.int x13), .val (.int x14), .val (.int 2), .unset, .unset, .unset, .unset, .unset, .unset, .unset, .unset, .unset, .unset, .unset]
def own_L79 (x0 : Int32) (x1 : Int32) (x2 : Int32) (x3 : Int32) (x4 : Int32) (x5 : Int32) (x6 : Int32) (x7 : Int32) (x8 : Int32) (x9 : Int32) (x10 : Int32) (x11 : Int32) (x12 : Int32) (x13 : Int32) (x14 : Int32) : Array Slot := #[.val (.int x0), .val (.int x1), .val (.int x2), .val (.int x3), .val (.int x4), .val (.int x5), .val (.int x6), .val (.int x7), .val (.int x8), .val (.int x9), .val (.int x10), .val (.int x11), .val (.int x12), .val (.int 3), .val (.int x13), .val (.int x14), .val (.int 2), .val (.int 1), .unset, .unset, .unset, .unset, .unset, .unset, .unset, .unset, .unset, .unset]
def own_L80 (x0 : Int32) (x1 : Int32) (x2 : Int32) (x3 : Int32) (x4 : Int32) (x5 : Int32) (x6 : Int32) (x7 : Int32) (x8 : Int32) (x9 : Int32) (x10 : Int32) (x11 : Int32) (x12 : Int32) (x13 : Int32) (x14 : Int32) (x15 : Addr) : Array Slot := #[.val (.int x0), .val (.int x1), .val (.int x2), .val (.int x3), .val (.int x4), .val (.int x5), .val (.int x6), .val (.int x7), .val (.int x8), .val (.int x9), .val (.int x10), .val (.int x11), .val (.int x12), .val (.int 3), .val (.int x13), .val (.int x14), .val (.int 2), .val (.int 1), .val (.ref x15), .unset, .unset, .unset, .unset, .unset, .unset, .unset, .unset, .unset]
def own_L81 (x0 : Int32) (x1 : Int32) (x2 : Int32) (x3 : Int32) (x4 : Int32) (x5 : Int32) (x6 : Int32) (x7 : Int32) (x8 : Int32) (x9 : Int32) (x10 : Int32) (x11 : Int32) (x12 : Int32) (x13 : Int32) (x14 : Int32) (x15 : Addr) : Array Slot := #[.val (.int x0), .val (.int x1), .val (.int x2), .val (.int x3), .val (.int x4), .val (.int x5), .val (.int x6), .val (.int x7), .val (.int x8), .val (.int x9), .val (.int x10), .val (.int x11), .val (.int x12), .val (.int 3), .val (.int x13), .val (.int x14), .val (.int 2), .val (.int 1), .val (.ref x15), .val (.long 0), .second, .unset, .unset, .unset, .unset, .unset, .unset, .unset]
def own_L82 (x0 : Int32) (x1 : Int32) (x2 : Int32) (x3 : Int32) (x4 : Int32) (x5 : Int32) (x6 : Int32) (x7 : Int32) (x8 : Int32) (x9 : Int32) (x10 : Int32) (x11 : Int32) (x12 : Int32) (x13 : Int32) (x14 : Int32) (x15 : Addr) : Array Slot := #[.val (.int x0), .val (.int x1), .val (.int x2), .val (.int x3), .val (.int x4), .val (.int x5), .val (.int x6), .val (.int x7), .val (.int x8), .val (.int x9), .val (.int x10), .val (.int x11), .val (.int x12), .val (.int 3), .val (.int x13), .val (.int x14), .val (.int 2), .val (.int 1), .val (.ref x15), .val (.long 0), .second, .val (.int 0), .unset, .unset, .unset, .unset, .unset, .unset]
def own_L83 (x0 : Int32) (x1 : Int32) (x2 : Int32) (x3 : Int32) (x4 : Int32) (x5 : Int32) (x6 : Int32) (x7 : Int32) (x8 : Int32) (x9 : Int32) (x10 : Int32) (x11 : Int32) (x12 : Int32) (x13 : Int32) (x14 : Int32) (x15 : Addr) (x16 : Int64) : Array Slot := #[.val (.int x0), .val (.int x1), .val (.int x2), .val (.int x3), .val (.int x4), .val (.int x5), .val (.int x6), .val (.int x7), .val (.int x8), .val (.int x9), .val (.int x10), .val (.int x11), .val (.int x12), .val (.int 3), .val (.int x13), .val (.int x14), .val (.int 2), .val (.int 1), .val (.ref x15), .val (.long 0), .second, .val (.int 0), .val (.long x16), .second, .unset, .unset, .unset, .unset]
theorem own_d15_0 : decode prog_29_method_6_code 0 = .ok (.aload_n 0, 1) := by decide +kernel
theorem own_d15_1 : decode prog_29_method_6_code 1 = .ok (.getfield 21, 3) := by decide +kernel
theorem own_d15_4 : decode prog_29_method_6_code 4 = .ok (.iload_n 1, 1) := by decide +kernel
theorem own_d15_5 : decode prog_29_method_6_code 5 = .ok (.dload_n 2, 1) := by decide +kernel
theorem own_d15_6 : decode prog_29_method_6_code 6 = .ok (.dastore, 1) := by decide +kernel
theorem own_d15_7 : decode prog_29_method_6_code 7 = .ok (.aload_n 0, 1) := by decide +kernel
theorem own_d15_8 : decode prog_29_method_6_code 8 = .ok (.iconst 1, 1) := by decide +kernel
theorem own_d15_9 : decode prog_29_method_6_code 9 = .ok (.putfield 105, 3) := by decide +kernel
theorem own_d15_12 : decode prog_29_method_6_code 12 = .ok (.return_, 1) := by decide +kernel
theorem own_ef15a (m : MethodId) (tt : Addr) (d2 : UInt64) : entryFrame m #[(.ref tt), (.int 0), (.double d2)] 4 = mkF m 0 #[.val (.ref tt), .val (.int 0), .val (.double d2), .second] [] := by first | (simp [entryFrame, mkF, argsToLocals, Value.category]; done) | rfl
def own_Q15a (Z : State) (tt : Addr) (aA : Nat → Addr) (aK : Nat → ClassId) (aF : Nat → Nat → Value) (aV : Nat → Value) (aJ : List own_e) (d2 : UInt64) (h0 : Heap) (n0 : Nat) (v : Option Value) (h : Heap) (L : List Loc) : Prop := v = none ∧ Fr n0 L ∧ own_R 15 Z n0 h tt aA aK (own_up2 aF 2 0 (.double d2)) (own_up aV 19 (.int 1)) (aJ)
set_option maxRecDepth 65536 in
set_option maxHeartbeats 40000000 in
theorem own_rm15a (l : Launch) (Z : State) (a0 : Array Value) (hw : ∀ d ∈ tables_1, d.before a0 Z = true) (ws : List Jvm.Cond) (tt : Addr) (aA : Nat → Addr) (aK : Nat → ClassId) (aF : Nat → Nat → Value) (aV : Nat → Value) (aJ : List own_e) (d2 : UInt64) (h0 : Heap) (n0 : Nat) (Z0 : n0 ≤ h0.size) (B0 : own_R 15 Z n0 h0 tt aA aK aF aV (aJ)) :
    MetFree l (⟨"com/example/placewright/placewright/solver/RevisedSimplex", "setCost", "(ID)V"⟩ : MethodName) (head1 (Jvm.Cond.code (⟨"com/example/placewright/placewright/solver/RevisedSimplex", "setCost", "(ID)V"⟩ : MethodName) prog_29_method_6_code 4 none :: ws) ({ frames := 0, cells := 0, slots := 0, locals := 0 } : Room)) (fun a U => a = #[(.ref tt), (.int 0), (.double d2)] ∧ Z.Warmed39 U.vm ∧ U.heap = h0) (fun _ _ _ _ _ => True) (fun _ U o U' => ∃ v L, o = .returned v ∧ own_Q15a Z tt aA aK aF aV aJ d2 h0 n0 v U'.heap L ∧ FrameEnd U o U' L ({ frames := 0, cells := 0, slots := 0, locals := 0 } : Room).cells ({ frames := 0, cells := 0, slots := 0, locals := 0 } : Room).slots) := by
  refine MetFree.of_bodySF (plainFor_of_name own_pn4) hisR ?_
  intro p e s m args below meth c s₁ Bd hml0 hP hK
  obtain ⟨rfl, hZ, hh⟩ := hP
  have hx := Bd.exec
  have hby := Bd.bytes
  have hml : c.maxLocals = 4 := hml0
  have hown : s.vm.findClass "com/example/placewright/placewright/solver/RevisedSimplex" = some m.cls := findClass_of_methodNamed Bd.named
  have hnm := (name_of_methodNamed Bd.named Bd.method).1
  have X0 : Stand p l e ({ frames := 0, cells := 0, slots := 0, locals := 0 } : Room) s m #[(.ref tt), (.int 0), (.double d2)] below meth c s₁ [] 0 0 := Stand.of_body Bd
  have e0 : s₁.heap = h0 := by rw [← hh, Bd.state]; rfl
  have N0 := Fr.nil n0
  have Zr : h0.size ≤ h0.size := Nat.le_refl _
  have pre0 : ∀ t, Steps p.tables e below (s₁.setTop (mkF m 0 #[.val (.ref tt), .val (.int 0), .val (.double d2), .second] [])) t → Steps p.tables e below (s₁.setTop (entryFrame m #[(.ref tt), (.int 0), (.double d2)] 4)) t := fun t k => castTop (own_ef15a m tt d2) k
  obtain ⟨Tn1, Xn1, en1, stn1⟩ := getF X0 hx hZ hown (host := "") (Or.inl (own_W hw 23 rfl)) Via.refl e0 (own_ga B0 2 (by decide) (by decide)) (g := (mkF m 1 #[.val (.ref tt), .val (.int 0), .val (.double d2), .second] [(.ref tt)])) rfl rfl (hb hby own_d15_1)
  obtain ⟨Tn2, hn2, Ln2, Xn2, en2, Bn2, Nn2, stn2⟩ := own_stD Xn1 hx hZ en1 B0 N0 2 0 (by decide) rfl (by decide) (g := (mkF m 6 #[.val (.ref tt), .val (.int 0), .val (.double d2), .second] [(.double d2), (.int 0), (.ref (aA 2))])) rfl rfl (hb hby own_d15_6)
  obtain ⟨Tn3, hn3, Ln3, Xn3, en3, Bn3, Nn3, stn3⟩ := own_pu Xn2 hx hZ hown 19 (own_W hw 135 rfl) en2 Bn2 Nn2 (own_sS hw) (by decide) (by decide) (Or.inl (own_W hw 136 rfl)) (own_W hw 6 rfl) (v' := (.int 1)) rfl rfl (g := (mkF m 9 #[.val (.ref tt), .val (.int 0), .val (.double d2), .second] [(.int 1), (.ref tt)])) rfl rfl (hb hby own_d15_9)
  obtain ⟨fs, hr, hrun, hended, hW, hsame⟩ := Xn3.leave (v := none) (fun _ => rfl)
  refine ⟨_, _, pre0 _ (?_), hrun, hended, _, _, rfl, ?_, ⟨_, rfl⟩, hW, hsame.mono (by decide) (by decide)⟩
  · show Steps p.tables e below (s₁.setTop (mkF m 0 #[.val (.ref tt), .val (.int 0), .val (.double d2), .second] [])) _
    refine XS.aloadN X0.here hx rfl (hb hby own_d15_0) rfl rfl ?_
    refine stn1 _ ?_
    refine XS.iloadN Xn1.here hx rfl (hb hby own_d15_4) rfl ?_
    refine XS.dloadN Xn1.here hx rfl (hb hby own_d15_5) rfl ?_
    refine stn2 _ ?_
    show Steps p.tables e below (Tn2.setTop (mkF m 7 #[.val (.ref tt), .val (.int 0), .val (.double d2), .second] [])) _
    refine XS.aloadN Xn2.here hx rfl (hb hby own_d15_7) rfl rfl ?_
    refine XS.iconst Xn2.here hx rfl (hb hby own_d15_8) ?_
    refine stn3 _ ?_
    show Steps p.tables e below (Tn3.setTop (mkF m 12 #[.val (.ref tt), .val (.int 0), .val (.double d2), .second] [])) _
    exact Xn3.returnOut hx Bd.returns (hb hby own_d15_12) hr
  · show own_Q15a Z tt aA aK aF aV aJ d2 h0 n0 _ Tn3.heap _
    rw [en3]
    exact ⟨rfl, Nn3, Bn3⟩
theorem own_pd11 : parseMethodDescriptor "(ID)V" = some ⟨[.int, .double], none⟩ := by decide +kernel
def own_L84 (x0 : Int32) (x1 : Int32) (x2 : Int32) (x3 : Int32) (x4 : Int32) (x5 : Int32) (x6 : Int32) (x7 : Int32) (x8 : Int32) (x9 : Int32) (x10 : Int32) (x11 : Int32) (x12 : Int32) (x13 : Int32) (x14 : Int32) (x15 : Addr) (x16 : Int64) (x17 : Int64) : Array Slot := #[.val (.int x0), .val (.int x1), .val (.int x2), .val (.int x3), .val (.int x4), .val (.int x5), .val (.int x6), .val (.int x7), .val (.int x8), .val (.int x9), .val (.int x10), .val (.int x11), .val (.int x12), .val (.int 3), .val (.int x13), .val (.int x14), .val (.int 2), .val (.int 1), .val (.ref x15), .val (.long 0), .second, .val (.int 0), .val (.long x16), .second, .val (.long x17), .second, .unset, .unset]
def own_L85 (x0 : Int32) (x1 : Int32) (x2 : Int32) (x3 : Int32) (x4 : Int32) (x5 : Int32) (x6 : Int32) (x7 : Int32) (x8 : Int32) (x9 : Int32) (x10 : Int32) (x11 : Int32) (x12 : Int32) (x13 : Int32) (x14 : Int32) (x15 : Addr) (x16 : Int64) (x17 : Int64) (x18 : Int64) : Array Slot := #[.val (.int x0), .val (.int x1), .val (.int x2), .val (.int x3), .val (.int x4), .val (.int x5), .val (.int x6), .val (.int x7), .val (.int x8), .val (.int x9), .val (.int x10), .val (.int x11), .val (.int x12), .val (.int 3), .val (.int x13), .val (.int x14), .val (.int 2), .val (.int 1), .val (.ref x15), .val (.long x16), .second, .val (.int 0), .val (.long x17), .second, .val (.long x18), .second, .unset, .unset]
def own_L86 (x0 : Int32) (x1 : Int32) (x2 : Int32) (x3 : Int32) (x4 : Int32) (x5 : Int32) (x6 : Int32) (x7 : Int32) (x8 : Int32) (x9 : Int32) (x10 : Int32) (x11 : Int32) (x12 : Int32) (x13 : Int32) (x14 : Int32) (x15 : Addr) (x16 : Int64) (x17 : Int64) (x18 : Int64) (x19 : Int64) : Array Slot := #[.val (.int x0), .val (.int x1), .val (.int x2), .val (.int x3), .val (.int x4), .val (.int x5), .val (.int x6), .val (.int x7), .val (.int x8), .val (.int x9), .val (.int x10), .val (.int x11), .val (.int x12), .val (.int 3), .val (.int x13), .val (.int x14), .val (.int 2), .val (.int 1), .val (.ref x15), .val (.long x16), .second, .val (.int 0), .val (.long x17), .second, .val (.long x18), .second, .val (.long x19), .second]
def own_v0_0 (p2 : Int32) : Int32 := ((p2 <<< ((11 : Int32) &&& 31)) >>> ((11 : Int32) &&& 31))
def own_v0_1 (p3 : Int32) : Int32 := ((p3 <<< ((11 : Int32) &&& 31)) >>> ((11 : Int32) &&& 31))
def own_v0_2 (p4 : Int32) : Int32 := ((1 : Int32) <<< ((p4 &&& (3 : Int32)) &&& 31))
def own_v0_3 (p4 : Int32) : Int32 := ((1 : Int32) <<< (((XT.ushr p4 (2 : Int32)) &&& (3 : Int32)) &&& 31))
def own_v0_4 (p4 : Int32) : Int32 := ((XT.ushr p4 (4 : Int32)) &&& (3 : Int32))
def own_v0_5 (p4 : Int32) : Int32 := ((XT.ushr p4 (6 : Int32)) &&& (3 : Int32))
def own_v0_6 (p5 : Int32) : Int32 := ((p5 <<< ((11 : Int32) &&& 31)) >>> ((11 : Int32) &&& 31))
def own_v0_7 (p0 : Int32) (p4 : Int32) : Int64 := ((p0 &&& (1048575 : Int32)).toInt64 * ((64 : Int32) / (own_v0_2 p4)).toInt64)
def own_v0_8 (p0 : Int32) (p2 : Int32) (p4 : Int32) : Int64 := ((own_v0_0 p2).toInt64 * (own_v0_7 p0 p4))
def own_v0_9 (p0 : Int32) (p1 : Int32) (p4 : Int32) : Int64 := ((((p1 &&& (1048575 : Int32)).toInt64 * (64 : Int64)) + (((own_v0_4 p4).toInt64 * (p0 &&& (1048575 : Int32)).toInt64) * ((64 : Int32) / (own_v0_2 p4)).toInt64)) / (own_v0_3 p4).toInt64)
def own_v0_10 (p0 : Int32) (p1 : Int32) (p2 : Int32) (p3 : Int32) (p4 : Int32) : Int64 := ((own_v0_8 p0 p2 p4) + ((own_v0_1 p3).toInt64 * (own_v0_9 p0 p1 p4)))
def own_v0_11 (p4 : Int32) : Int64 := (p4 >>> ((11 : Int32) &&& 31)).toInt64
def own_v0_12 (p0 : Int32) (p4 : Int32) : Int64 := ((own_v0_11 p4) * (own_v0_7 p0 p4))
def own_v0_13 (p0 : Int32) (p1 : Int32) (p3 : Int32) (p4 : Int32) : Int64 := ((own_v0_12 p0 p4) + ((own_v0_1 p3).toInt64 * (own_v0_9 p0 p1 p4)))
theorem own_ef0 (m : MethodId) (p0 : Int32) (p1 : Int32) (p2 : Int32) (p3 : Int32) (p4 : Int32) (p5 : Int32) : entryFrame m #[(.int p0), (.int p1), (.int p2), (.int p3), (.int p4), (.int p5)] maxLocals = mkF m 0 #[.val (.int p0), .val (.int p1), .val (.int p2), .val (.int p3), .val (.int p4), .val (.int p5), .unset, .unset, .unset, .unset, .unset, .unset, .unset, .unset, .unset, .unset, .unset, .unset, .unset, .unset, .unset, .unset, .unset, .unset, .unset, .unset, .unset, .unset] [] := by first | (simp [entryFrame, mkF, argsToLocals, Value.category, maxLocals]; done) | rfl
def own_Q0 (Z : State) (p0 : Int32) (p1 : Int32) (p2 : Int32) (p3 : Int32) (p4 : Int32) (p5 : Int32) (h0 : Heap) (n0 : Nat) (v : Option Value) (h : Heap) (L : List Loc) : Prop := v = some (.int 1) ∧ Fr n0 L
set_option maxRecDepth 65536 in
set_option maxHeartbeats 40000000 in
theorem own_rm0 (l : Launch) (Z : State) (a0 : Array Value) (hw : ∀ d ∈ tables_1, d.before a0 Z = true) (ws : List Jvm.Cond) (p0 : Int32) (p1 : Int32) (p2 : Int32) (p3 : Int32) (p4 : Int32) (p5 : Int32) (h0 : Heap) (n0 : Nat) (Z0 : n0 ≤ h0.size) (nn296 : NoNaN64 (FP.dmul (0 : UInt64) (4634204016564240384 : UInt64))) (hc301 : (cmpValue (FP.dcmp (FP.dmul (0 : UInt64) (4634204016564240384 : UInt64)) (FP.l2d (0 : Int64))) .l) = (0 : Int32)) (c138_nn249 : NoNaN64 (FP.dsub (FP.i2d (p0 &&& (1048575 : Int32))) (0 : UInt64))) (c138_nn252 : NoNaN64 (FP.ddiv (FP.dsub (FP.i2d (p0 &&& (1048575 : Int32))) (0 : UInt64)) (FP.i2d (own_v0_2 p4)))) (c138_hc261 : ¬ ((cmpValue (FP.dcmp (own_v8a_0 (FP.i2d (p0 &&& (1048575 : Int32))) (FP.i2d (own_v0_2 p4))) (13695778570484766357 : UInt64)) .g) < (0 : Int32))) (c138_c318_c252_c11_hc19 : ¬ ((cmpValue (FP.dcmp (0 : UInt64) (13695778570484766357 : UInt64)) .g) < (0 : Int32))) (c138_nx349 : NoNaN64 (0 : UInt64)) (c138_ny349 : NoNaN64 (own_v8a_0 (FP.i2d (p0 &&& (1048575 : Int32))) (FP.i2d (own_v0_2 p4)))) (hz198 : (own_v0_2 p4) ≠ 0) (c290_nn30 : NoNaN64 (FP.dmul (FP.i2d (own_v0_0 p2)) (own_v8a_1 (FP.i2d (p0 &&& (1048575 : Int32))) (FP.i2d (own_v0_2 p4))))) (c290_nn31 : NoNaN64 (FP.dadd (0 : UInt64) (FP.dmul (FP.i2d (own_v0_0 p2)) (own_v8a_1 (FP.i2d (p0 &&& (1048575 : Int32))) (FP.i2d (own_v0_2 p4)))))) (nn296_2 : NoNaN64 (FP.dmul (own_v7b_0 (FP.i2d (own_v0_0 p2)) (own_v8a_1 (FP.i2d (p0 &&& (1048575 : Int32))) (FP.i2d (own_v0_2 p4)))) (4634204016564240384 : UInt64))) (hc301_2 : (cmpValue (FP.dcmp (FP.dmul (own_v7b_0 (FP.i2d (own_v0_0 p2)) (own_v8a_1 (FP.i2d (p0 &&& (1048575 : Int32))) (FP.i2d (own_v0_2 p4)))) (4634204016564240384 : UInt64)) (FP.l2d (own_v0_8 p0 p2 p4))) .l) = (0 : Int32)) (c245_nn236 : NoNaN64 (FP.dmul (FP.i2d (-(own_v0_4 p4))) (own_v8a_1 (FP.i2d (p0 &&& (1048575 : Int32))) (FP.i2d (own_v0_2 p4))))) (c245_nn237 : NoNaN64 (FP.dadd (0 : UInt64) (FP.dmul (FP.i2d (-(own_v0_4 p4))) (own_v8a_1 (FP.i2d (p0 &&& (1048575 : Int32))) (FP.i2d (own_v0_2 p4)))))) (c245_nn249 : NoNaN64 (FP.dsub (FP.i2d (p1 &&& (1048575 : Int32))) (own_v8b_0 (FP.i2d (-(own_v0_4 p4))) (own_v8a_1 (FP.i2d (p0 &&& (1048575 : Int32))) (FP.i2d (own_v0_2 p4)))))) (c245_nn252 : NoNaN64 (FP.ddiv (FP.dsub (FP.i2d (p1 &&& (1048575 : Int32))) (own_v8b_0 (FP.i2d (-(own_v0_4 p4))) (own_v8a_1 (FP.i2d (p0 &&& (1048575 : Int32))) (FP.i2d (own_v0_2 p4))))) (FP.i2d (own_v0_3 p4)))) (c245_hc261 : ¬ ((cmpValue (FP.dcmp (own_v8b_1 (FP.i2d (p1 &&& (1048575 : Int32))) (FP.i2d (own_v0_3 p4)) (FP.i2d (-(own_v0_4 p4))) (own_v8a_1 (FP.i2d (p0 &&& (1048575 : Int32))) (FP.i2d (own_v0_2 p4)))) (13695778570484766357 : UInt64)) .g) < (0 : Int32))) (c245_ny349 : NoNaN64 (own_v8b_1 (FP.i2d (p1 &&& (1048575 : Int32))) (FP.i2d (own_v0_3 p4)) (FP.i2d (-(own_v0_4 p4))) (own_v8a_1 (FP.i2d (p0 &&& (1048575 : Int32))) (FP.i2d (own_v0_2 p4))))) (hz274 : (own_v0_3 p4).toInt64 ≠ 0) (c290_nn30_2 : NoNaN64 (FP.dmul (FP.i2d (own_v0_1 p3)) (own_v8b_2 (FP.i2d (p1 &&& (1048575 : Int32))) (FP.i2d (own_v0_3 p4)) (FP.i2d (-(own_v0_4 p4))) (own_v8a_1 (FP.i2d (p0 &&& (1048575 : Int32))) (FP.i2d (own_v0_2 p4)))))) (c290_nn31_2 : NoNaN64 (FP.dadd (own_v7c_0 (FP.i2d (own_v0_0 p2)) (own_v8a_1 (FP.i2d (p0 &&& (1048575 : Int32))) (FP.i2d (own_v0_2 p4)))) (FP.dmul (FP.i2d (own_v0_1 p3)) (own_v8b_2 (FP.i2d (p1 &&& (1048575 : Int32))) (FP.i2d (own_v0_3 p4)) (FP.i2d (-(own_v0_4 p4))) (own_v8a_1 (FP.i2d (p0 &&& (1048575 : Int32))) (FP.i2d (own_v0_2 p4))))))) (nn296_3 : NoNaN64 (FP.dmul (own_r7c_2 (FP.i2d (own_v0_0 p2)) (own_v8a_1 (FP.i2d (p0 &&& (1048575 : Int32))) (FP.i2d (own_v0_2 p4))) (FP.i2d (own_v0_1 p3)) (own_v8b_2 (FP.i2d (p1 &&& (1048575 : Int32))) (FP.i2d (own_v0_3 p4)) (FP.i2d (-(own_v0_4 p4))) (own_v8a_1 (FP.i2d (p0 &&& (1048575 : Int32))) (FP.i2d (own_v0_2 p4))))) (4634204016564240384 : UInt64))) (hc301_3 : (cmpValue (FP.dcmp (FP.dmul (own_r7c_2 (FP.i2d (own_v0_0 p2)) (own_v8a_1 (FP.i2d (p0 &&& (1048575 : Int32))) (FP.i2d (own_v0_2 p4))) (FP.i2d (own_v0_1 p3)) (own_v8b_2 (FP.i2d (p1 &&& (1048575 : Int32))) (FP.i2d (own_v0_3 p4)) (FP.i2d (-(own_v0_4 p4))) (own_v8a_1 (FP.i2d (p0 &&& (1048575 : Int32))) (FP.i2d (own_v0_2 p4))))) (4634204016564240384 : UInt64)) (FP.l2d (own_v0_10 p0 p1 p2 p3 p4))) .l) = (0 : Int32)) (c290_nn30_3 : NoNaN64 (FP.dmul (FP.i2d (p4 >>> ((11 : Int32) &&& 31))) (own_v8a_1 (FP.i2d (p0 &&& (1048575 : Int32))) (FP.i2d (own_v0_2 p4))))) (c290_nn31_3 : NoNaN64 (FP.dadd (0 : UInt64) (FP.dmul (FP.i2d (p4 >>> ((11 : Int32) &&& 31))) (own_v8a_1 (FP.i2d (p0 &&& (1048575 : Int32))) (FP.i2d (own_v0_2 p4)))))) (c290_nn31_2_2 : NoNaN64 (FP.dadd (own_v7c_0 (FP.i2d (p4 >>> ((11 : Int32) &&& 31))) (own_v8a_1 (FP.i2d (p0 &&& (1048575 : Int32))) (FP.i2d (own_v0_2 p4)))) (FP.dmul (FP.i2d (own_v0_1 p3)) (own_v8b_2 (FP.i2d (p1 &&& (1048575 : Int32))) (FP.i2d (own_v0_3 p4)) (FP.i2d (-(own_v0_4 p4))) (own_v8a_1 (FP.i2d (p0 &&& (1048575 : Int32))) (FP.i2d (own_v0_2 p4))))))) (nn296_4 : NoNaN64 (FP.dmul (own_r7c_2 (FP.i2d (p4 >>> ((11 : Int32) &&& 31))) (own_v8a_1 (FP.i2d (p0 &&& (1048575 : Int32))) (FP.i2d (own_v0_2 p4))) (FP.i2d (own_v0_1 p3)) (own_v8b_2 (FP.i2d (p1 &&& (1048575 : Int32))) (FP.i2d (own_v0_3 p4)) (FP.i2d (-(own_v0_4 p4))) (own_v8a_1 (FP.i2d (p0 &&& (1048575 : Int32))) (FP.i2d (own_v0_2 p4))))) (4634204016564240384 : UInt64))) (hc301_4 : (cmpValue (FP.dcmp (FP.dmul (own_r7c_2 (FP.i2d (p4 >>> ((11 : Int32) &&& 31))) (own_v8a_1 (FP.i2d (p0 &&& (1048575 : Int32))) (FP.i2d (own_v0_2 p4))) (FP.i2d (own_v0_1 p3)) (own_v8b_2 (FP.i2d (p1 &&& (1048575 : Int32))) (FP.i2d (own_v0_3 p4)) (FP.i2d (-(own_v0_4 p4))) (own_v8a_1 (FP.i2d (p0 &&& (1048575 : Int32))) (FP.i2d (own_v0_2 p4))))) (4634204016564240384 : UInt64)) (FP.l2d (own_v0_13 p0 p1 p3 p4))) .l) = (0 : Int32)) :
    MetFree l x (head1 (Jvm.Cond.code x code maxLocals ret :: ws) room_1) (fun a U => a = #[(.int p0), (.int p1), (.int p2), (.int p3), (.int p4), (.int p5)] ∧ Z.Warmed39 U.vm ∧ U.heap = h0) (fun _ _ _ _ _ => True) (fun _ U o U' => ∃ v L, o = .returned v ∧ own_Q0 Z p0 p1 p2 p3 p4 p5 h0 n0 v U'.heap L ∧ FrameEnd U o U' L room_1.cells room_1.slots) := by
  refine MetFree.of_bodySF (plainFor_of_name own_pn3) hisR ?_
  intro p e s m args below meth c s₁ Bd hml0 hP hK
  obtain ⟨rfl, hZ, hh⟩ := hP
  have hx := Bd.exec
  have hby := Bd.bytes
  have hml : c.maxLocals = 28 := hml0
  have hown : s.vm.findClass "com/example/placewright/placewright/solver/RevisedSimplexObjectivePinLaw" = some m.cls := findClass_of_methodNamed Bd.named
  have hnm := (name_of_methodNamed Bd.named Bd.method).1
  have X0 : Stand p l e room_1 s m #[(.int p0), (.int p1), (.int p2), (.int p3), (.int p4), (.int p5)] below meth c s₁ [] 0 0 := Stand.of_body Bd
  have e0 : s₁.heap = h0 := by rw [← hh, Bd.state]; rfl
  have N0 := Fr.nil n0
  have Zr : h0.size ≤ h0.size := Nat.le_refl _
  have pre0 : ∀ t, Steps p.tables e below (s₁.setTop (mkF m 0 #[.val (.int p0), .val (.int p1), .val (.int p2), .val (.int p3), .val (.int p4), .val (.int p5), .unset, .unset, .unset, .unset, .unset, .unset, .unset, .unset, .unset, .unset, .unset, .unset, .unset, .unset, .unset, .unset, .unset, .unset, .unset, .unset, .unset, .unset] [])) t → Steps p.tables e below (s₁.setTop (entryFrame m #[(.int p0), (.int p1), (.int p2), (.int p3), (.int p4), (.int p5)] maxLocals)) t := fun t k => castTop (own_ef0 m p0 p1 p2 p3 p4 p5) k
  have Ks1 : ∀ t, Steps p.tables e below (s₁.setTop (mkF m 65 (own_L8 p0 p1 p2 p3 p4 p5 (p0 &&& (1048575 : Int32)) (p1 &&& (1048575 : Int32)) (own_v0_0 p2) (own_v0_1 p3) (own_v0_2 p4) (own_v0_3 p4) (own_v0_4 p4) (own_v0_5 p4)) [])) t → Steps p.tables e below (s₁.setTop (mkF m 0 (own_L0 p0 p1 p2 p3 p4 p5) [])) t := by
    intro t kt
    show Steps p.tables e below (s₁.setTop (mkF m 0 (own_L0 p0 p1 p2 p3 p4 p5) [])) _
    refine XS.iloadN X0.here hx rfl (hb hby at_0) rfl ?_
    refine X0.ldcInt hx hown (mvT hZ (own_W hw 0 rfl)) (g := (mkF m 1 (own_L0 p0 p1 p2 p3 p4 p5) [(.int p0)])) rfl (hb hby at_1) _ ?_
    refine XS.iand X0.here hx rfl (hb hby at_3) rfl ?_
    refine XS.istore X0.here hx rfl (hb hby at_4) rfl (l' := (own_L1 p0 p1 p2 p3 p4 p5 (p0 &&& (1048575 : Int32)))) rfl ?_
    refine XS.iloadN X0.here hx rfl (hb hby at_6) rfl ?_
    refine X0.ldcInt hx hown (mvT hZ (own_W hw 0 rfl)) (g := (mkF m 7 (own_L1 p0 p1 p2 p3 p4 p5 (p0 &&& (1048575 : Int32))) [(.int p1)])) rfl (hb hby at_7) _ ?_
    show Steps p.tables e below (s₁.setTop (mkF m 9 (own_L1 p0 p1 p2 p3 p4 p5 (p0 &&& (1048575 : Int32))) [(.int 1048575), (.int p1)])) _
    refine XS.iand X0.here hx rfl (hb hby at_9) rfl ?_
    refine XS.istore X0.here hx rfl (hb hby at_10) rfl (l' := (own_L2 p0 p1 p2 p3 p4 p5 (p0 &&& (1048575 : Int32)) (p1 &&& (1048575 : Int32)))) rfl ?_
    refine XS.iloadN X0.here hx rfl (hb hby at_12) rfl ?_
    refine XS.bipush X0.here hx rfl (hb hby at_13) ?_
    refine XT.ishl X0.here hx rfl (hb hby at_15) rfl ?_
    refine XS.bipush X0.here hx rfl (hb hby at_16) ?_
    refine XT.ishr X0.here hx rfl (hb hby at_18) rfl ?_
    refine XS.istore X0.here hx rfl (hb hby at_19) rfl (l' := (own_L3 p0 p1 p2 p3 p4 p5 (p0 &&& (1048575 : Int32)) (p1 &&& (1048575 : Int32)) (own_v0_0 p2))) rfl ?_
    refine XS.iloadN X0.here hx rfl (hb hby at_21) rfl ?_
    refine XS.bipush X0.here hx rfl (hb hby at_22) ?_
    refine XT.ishl X0.here hx rfl (hb hby at_24) rfl ?_
    refine XS.bipush X0.here hx rfl (hb hby at_25) ?_
    refine XT.ishr X0.here hx rfl (hb hby at_27) rfl ?_
    refine XS.istore X0.here hx rfl (hb hby at_28) rfl (l' := (own_L4 p0 p1 p2 p3 p4 p5 (p0 &&& (1048575 : Int32)) (p1 &&& (1048575 : Int32)) (own_v0_0 p2) (own_v0_1 p3))) rfl ?_
    refine XS.iconst X0.here hx rfl (hb hby at_30) ?_
    refine XS.iload X0.here hx rfl (hb hby at_31) rfl ?_
    refine XS.iconst X0.here hx rfl (hb hby at_33) ?_
    refine XS.iand X0.here hx rfl (hb hby at_34) rfl ?_
    refine XT.ishl X0.here hx rfl (hb hby at_35) rfl ?_
    refine XS.istore X0.here hx rfl (hb hby at_36) rfl (l' := (own_L5 p0 p1 p2 p3 p4 p5 (p0 &&& (1048575 : Int32)) (p1 &&& (1048575 : Int32)) (own_v0_0 p2) (own_v0_1 p3) (own_v0_2 p4))) rfl ?_
    refine XS.iconst X0.here hx rfl (hb hby at_38) ?_
    refine XS.iload X0.here hx rfl (hb hby at_39) rfl ?_
    refine XS.iconst X0.here hx rfl (hb hby at_41) ?_
    refine XT.iushr X0.here hx rfl (hb hby at_42) rfl ?_
    show Steps p.tables e below (s₁.setTop (mkF m 43 (own_L5 p0 p1 p2 p3 p4 p5 (p0 &&& (1048575 : Int32)) (p1 &&& (1048575 : Int32)) (own_v0_0 p2) (own_v0_1 p3) (own_v0_2 p4)) [(.int (XT.ushr p4 (2 : Int32))), (.int 1)])) _
    refine XS.iconst X0.here hx rfl (hb hby at_43) ?_
    refine XS.iand X0.here hx rfl (hb hby at_44) rfl ?_
    refine XT.ishl X0.here hx rfl (hb hby at_45) rfl ?_
    refine XS.istore X0.here hx rfl (hb hby at_46) rfl (l' := (own_L6 p0 p1 p2 p3 p4 p5 (p0 &&& (1048575 : Int32)) (p1 &&& (1048575 : Int32)) (own_v0_0 p2) (own_v0_1 p3) (own_v0_2 p4) (own_v0_3 p4))) rfl ?_
    refine XS.iload X0.here hx rfl (hb hby at_48) rfl ?_
    refine XS.iconst X0.here hx rfl (hb hby at_50) ?_
    refine XT.iushr X0.here hx rfl (hb hby at_51) rfl ?_
    show Steps p.tables e below (s₁.setTop (mkF m 52 (own_L6 p0 p1 p2 p3 p4 p5 (p0 &&& (1048575 : Int32)) (p1 &&& (1048575 : Int32)) (own_v0_0 p2) (own_v0_1 p3) (own_v0_2 p4) (own_v0_3 p4)) [(.int (XT.ushr p4 (4 : Int32)))])) _
    refine XS.iconst X0.here hx rfl (hb hby at_52) ?_
    refine XS.iand X0.here hx rfl (hb hby at_53) rfl ?_
    refine XS.istore X0.here hx rfl (hb hby at_54) rfl (l' := (own_L7 p0 p1 p2 p3 p4 p5 (p0 &&& (1048575 : Int32)) (p1 &&& (1048575 : Int32)) (own_v0_0 p2) (own_v0_1 p3) (own_v0_2 p4) (own_v0_3 p4) (own_v0_4 p4))) rfl ?_
    refine XS.iload X0.here hx rfl (hb hby at_56) rfl ?_
    refine XS.bipush X0.here hx rfl (hb hby at_58) ?_
    refine XT.iushr X0.here hx rfl (hb hby at_60) rfl ?_
    show Steps p.tables e below (s₁.setTop (mkF m 61 (own_L7 p0 p1 p2 p3 p4 p5 (p0 &&& (1048575 : Int32)) (p1 &&& (1048575 : Int32)) (own_v0_0 p2) (own_v0_1 p3) (own_v0_2 p4) (own_v0_3 p4) (own_v0_4 p4)) [(.int (XT.ushr p4 (6 : Int32)))])) _
    refine XS.iconst X0.here hx rfl (hb hby at_61) ?_
    refine XS.iand X0.here hx rfl (hb hby at_62) rfl ?_
    refine XS.istore X0.here hx rfl (hb hby at_63) rfl (l' := (own_L8 p0 p1 p2 p3 p4 p5 (p0 &&& (1048575 : Int32)) (p1 &&& (1048575 : Int32)) (own_v0_0 p2) (own_v0_1 p3) (own_v0_2 p4) (own_v0_3 p4) (own_v0_4 p4) (own_v0_5 p4))) rfl ?_
    exact kt
  rcases (show (own_v0_5 p4) = (0 : Int32) ∨ (own_v0_5 p4) = (1 : Int32) ∨ (own_v0_5 p4) = (2 : Int32) ∨ (own_v0_5 p4) = (3 : Int32) from own_cases p4) with hs1 | hs1 | hs1 | hs1
  · have K2 : ∀ t, Steps p.tables e below (s₁.setTop (mkF m 65 (own_L9 p0 p1 p2 p3 p4 p5 (p0 &&& (1048575 : Int32)) (p1 &&& (1048575 : Int32)) (own_v0_0 p2) (own_v0_1 p3) (own_v0_2 p4) (own_v0_3 p4) (own_v0_4 p4)) [])) t → Steps p.tables e below (s₁.setTop (mkF m 65 (own_L8 p0 p1 p2 p3 p4 p5 (p0 &&& (1048575 : Int32)) (p1 &&& (1048575 : Int32)) (own_v0_0 p2) (own_v0_1 p3) (own_v0_2 p4) (own_v0_3 p4) (own_v0_4 p4) (own_v0_5 p4)) [])) t := by intro t kt; rw [hs1]; exact kt
    obtain ⟨_, _, ⟨Tk3, Lk3, kk3, nk3⟩, -, Xk3, ⟨Lck3, hQk3, lk3, yk3, zk3⟩, stk3⟩ := Jvm.LawKit.callS X0 hx (y := (⟨"java/lang/Math", "min", "(II)I"⟩ : MethodName)) hown (mvT hZ (own_W hw 1 rfl)) (mvT hZ (own_W hw 2 rfl)) (mvT hZ (own_W hw 3 rfl)) (mvT hZ (own_W hw 4 rfl)) (by decide) (backOf (W := 0) (own_rm1_0_2 l Z a0 hw []  h0 n0 Z0) hZ (own_W hw 4 rfl) (own_W hw 3 rfl) (by decide) (by decide)) (g := (mkF m 85 (own_L11 p0 p1 p2 p3 p4 p5 (p0 &&& (1048575 : Int32)) (p1 &&& (1048575 : Int32)) (own_v0_0 p2) (own_v0_1 p3) (own_v0_2 p4) (own_v0_3 p4) (own_v0_4 p4) (p4 >>> ((11 : Int32) &&& 31)) (own_v0_6 p5)) [(.int 2), (.int 0)])) rfl (by rw [hml]; rfl) (argsL := [(.int 0), (.int 2)]) (rest := []) (lenOf own_pd2 rfl) rfl (by show 2 * 0 + _ ≤ _; exact Nat.le_of_eq rfl) (hb hby at_85) (fun _ _ => ⟨rfl, e0, (by decide : 0 + 0 ≤ _), (by decide : 0 + 0 ≤ _)⟩)
    dsimp only [Pt.U, Pt.locs, Pt.cells, Pt.slots] at Xk3 lk3 yk3 zk3 stk3 hQk3
    replace lk3 := lk3.symm; replace yk3 := yk3.symm; replace zk3 := zk3.symm; subst lk3 yk3 zk3
    obtain ⟨rfl, Nk3q, ek3⟩ := hQk3
    have Nk3 := Fr.app N0 Nk3q
    obtain ⟨Tn4, hn4, Xn4, en4, En4, An4, Dn4, -, stn4⟩ := newO Xk3 hx hZ hown (own_W hw 5 rfl) (own_W hw 6 rfl) (own_W hw 7 rfl) ek3 (g := (mkF m 103 (own_L13 p0 p1 p2 p3 p4 p5 (p0 &&& (1048575 : Int32)) (p1 &&& (1048575 : Int32)) (own_v0_0 p2) (own_v0_1 p3) (own_v0_2 p4) (own_v0_3 p4) (own_v0_4 p4) (p4 >>> ((11 : Int32) &&& 31)) (own_v0_6 p5)) [])) rfl (hb hby at_103) (by decide) (by decide)
    obtain ⟨tt, gn4⟩ : ∃ z, z = h0.size := ⟨_, rfl⟩
    rw [← gn4] at An4 Dn4 stn4
    have Bn4 := own_R_new An4 (n0 := n0) (by rw [gn4]; exact Z0) (fun i hi => by
      match i, hi with
      | 0, _ => exact Dn4 (Or.inl (own_W hw 17 rfl)) (ty := (.array (.array .int))) (by decide)
      | 1, _ => exact Dn4 (Or.inl (own_W hw 21 rfl)) (ty := (.array (.array .double))) (by decide)
      | 2, _ => exact Dn4 (Or.inl (own_W hw 24 rfl)) (ty := (.array .double)) (by decide)
      | 3, _ => exact Dn4 (Or.inl (own_W hw 27 rfl)) (ty := (.array .int)) (by decide)
      | 4, _ => exact Dn4 (Or.inl (own_W hw 29 rfl)) (ty := (.array .double)) (by decide)
      | 5, _ => exact Dn4 (Or.inl (own_W hw 31 rfl)) (ty := (.array .double)) (by decide)
      | 6, _ => exact Dn4 (Or.inl (own_W hw 33 rfl)) (ty := (.array (.array .int))) (by decide)
      | 7, _ => exact Dn4 (Or.inl (own_W hw 35 rfl)) (ty := (.array (.array .double))) (by decide)
      | 8, _ => exact Dn4 (Or.inl (own_W hw 37 rfl)) (ty := (.array .int)) (by decide)
      | 9, _ => exact Dn4 (Or.inl (own_W hw 39 rfl)) (ty := (.array .int)) (by decide)
      | 10, _ => exact Dn4 (Or.inl (own_W hw 42 rfl)) (ty := (.array .boolean)) (by decide)
      | 11, _ => exact Dn4 (Or.inl (own_W hw 46 rfl)) (ty := (.array .double)) (by decide)
      | 12, _ => exact Dn4 (Or.inl (own_W hw 48 rfl)) (ty := (.array .int)) (by decide)
      | 13, _ => exact Dn4 (Or.inl (own_W hw 50 rfl)) (ty := (.array .double)) (by decide)
      | 14, _ => exact Dn4 (Or.inl (own_W hw 52 rfl)) (ty := (.array .double)) (by decide)
      | 15, _ => exact Dn4 (Or.inl (own_W hw 143 rfl)) (ty := .int) (by decide)
      | 16, _ => exact Dn4 (Or.inl (own_W hw 190 rfl)) (ty := .int) (by decide)
      | 17, _ => exact Dn4 (Or.inl (own_W hw 122 rfl)) (ty := .int) (by decide)
      | 18, _ => exact Dn4 (Or.inl (own_W hw 44 rfl)) (ty := .int) (by decide)
      | 19, _ => exact Dn4 (Or.inl (own_W hw 136 rfl)) (ty := .boolean) (by decide)
      | 20, _ => exact Dn4 (Or.inl (own_W hw 115 rfl)) (ty := .boolean) (by decide)
      | 21, _ => exact Dn4 (Or.inr (own_W hw 113 rfl)) (ty := (.object "com/example/placewright/placewright/solver/BasisFactorization")) (by decide)
      | k + 22, hk => omega)
    obtain ⟨_, _, ⟨Tk5, Lk5, kk5, nk5⟩, -, Xk5, ⟨Lck5, hQk5, lk5, yk5, zk5⟩, stk5⟩ := Xn4.specialBack hx (y := (⟨"com/example/placewright/placewright/solver/RevisedSimplex", "<init>", "()V"⟩ : MethodName)) rfl hown (mvT hZ (own_W hw 8 rfl)) (mvT hZ (own_W hw 9 rfl)) (mvT hZ (own_W hw 10 rfl)) (by decide) (backOf (W := 1) (own_rm2a l Z a0 hw [] tt _ _ _ _ hn4 n0 (own_R_sz Bn4) Bn4 rfl rfl rfl rfl) hZ (own_W hw 10 rfl) (own_W hw 7 rfl) (by decide) (by decide)) (g := (mkF m 107 (own_L13 p0 p1 p2 p3 p4 p5 (p0 &&& (1048575 : Int32)) (p1 &&& (1048575 : Int32)) (own_v0_0 p2) (own_v0_1 p3) (own_v0_2 p4) (own_v0_3 p4) (own_v0_4 p4) (p4 >>> ((11 : Int32) &&& 31)) (own_v0_6 p5)) [(.ref tt), (.ref tt)])) rfl (by rw [hml]; rfl) (Steps.refl _) (a := tt) (argsL := []) (rest := [(.ref tt)]) (lenOf own_pd0 rfl) rfl (by show 2 * 0 + _ ≤ _; exact Nat.le_of_eq rfl) (hb hby at_107) (fun _ _ => ⟨rfl, en4, (by decide : 1 + 40 ≤ _), (by decide : 26 + 339 ≤ _)⟩)
    dsimp only [Pt.U, Pt.locs, Pt.cells, Pt.slots] at Xk5 lk5 yk5 zk5 stk5 hQk5
    replace lk5 := lk5.symm; replace yk5 := yk5.symm; replace zk5 := zk5.symm; subst lk5 yk5 zk5
    obtain ⟨aA, aK, aF, aV, rfl, Nk5q, Bk5, f0_k5, f1_k5, f2_k5, f3_k5, v15_k5, v16_k5, v17_k5, v18_k5, v19_k5⟩ := hQk5
    have Nk5 := Fr.app Nk3 Nk5q
    obtain ⟨cqk6, kqk6, qk6a, qk6b, qk6c⟩ := isOf hZ rfl (own_R_exa Bk5)
    obtain ⟨_, _, ⟨Tk6, Lk6, kk6, nk6⟩, -, Xk6, ⟨Lck6, hQk6, lk6, yk6, zk6⟩, stk6⟩ := Xk5.virtualBack hx (y := (⟨"com/example/placewright/placewright/solver/RevisedSimplex", "objective", "()D"⟩ : MethodName)) (z := (⟨"com/example/placewright/placewright/solver/RevisedSimplex", "objective", "()D"⟩ : MethodName)) hown (mvT hZ (own_W hw 116 rfl)) (mvT hZ (own_W hw 117 rfl)) (notFace_of_selects (args := #[]) (mvT hZ (own_W hw 119 rfl))) (mvT hZ (own_W hw 119 rfl)) (mvT hZ (own_W hw 118 rfl)) (by decide) (backOf (W := 0) (own_rm7a l Z a0 hw [] tt aA aK _ _ ([]) Tk5.heap n0 (own_R_sz Bk5) Bk5 v17_k5) hZ (own_W hw 120 rfl) (own_W hw 7 rfl) (by decide) (by decide)) qk6a qk6c (g := (mkF m 290 (own_L15 p0 p1 p2 p3 p4 p5 (p0 &&& (1048575 : Int32)) (p1 &&& (1048575 : Int32)) (own_v0_0 p2) (own_v0_1 p3) (own_v0_2 p4) (own_v0_3 p4) (own_v0_4 p4) (p4 >>> ((11 : Int32) &&& 31)) (own_v0_6 p5) tt) [(.ref tt)])) rfl (by rw [hml]; rfl) (Steps.refl _) (argsL := []) (rest := []) (lenOf own_pd3 rfl) rfl (by show 2 * 0 + _ ≤ _; exact Nat.le_of_eq rfl) (hb hby at_290) (fun _ _ => ⟨rfl, rfl, (by decide : 41 + 0 ≤ _), (by decide : 365 + 0 ≤ _)⟩)
    dsimp only [Pt.U, Pt.locs, Pt.cells, Pt.slots] at Xk6 lk6 yk6 zk6 stk6 hQk6
    replace lk6 := lk6.symm; replace yk6 := yk6.symm; replace zk6 := zk6.symm; subst lk6 yk6 zk6
    obtain ⟨rfl, Nk6q, Bk6⟩ := hQk6
    have Nk6 := Fr.app Nk5 Nk6q
    obtain ⟨fs, hr, hrun, hended, hW, hsame⟩ := Xk6.leave (v := some (.int 1)) (fun h => by rw [Bd.returns] at h; cases h)
    refine ⟨_, _, pre0 _ (Ks1 _ (K2 _ (?_))), hrun, hended, _, _, rfl, ?_, ⟨_, rfl⟩, hW, hsame.mono (by decide) (by decide)⟩
    · show Steps p.tables e below (s₁.setTop (mkF m 65 (own_L9 p0 p1 p2 p3 p4 p5 (p0 &&& (1048575 : Int32)) (p1 &&& (1048575 : Int32)) (own_v0_0 p2) (own_v0_1 p3) (own_v0_2 p4) (own_v0_3 p4) (own_v0_4 p4)) [])) _
      refine XS.iload X0.here hx rfl (hb hby at_65) rfl ?_
      refine XS.bipush X0.here hx rfl (hb hby at_67) ?_
      refine XT.ishr X0.here hx rfl (hb hby at_69) rfl ?_
      refine XS.istore X0.here hx rfl (hb hby at_70) rfl (l' := (own_L10 p0 p1 p2 p3 p4 p5 (p0 &&& (1048575 : Int32)) (p1 &&& (1048575 : Int32)) (own_v0_0 p2) (own_v0_1 p3) (own_v0_2 p4) (own_v0_3 p4) (own_v0_4 p4) (p4 >>> ((11 : Int32) &&& 31)))) rfl ?_
      refine XS.iload X0.here hx rfl (hb hby at_72) rfl ?_
      refine XS.bipush X0.here hx rfl (hb hby at_74) ?_
      refine XT.ishl X0.here hx rfl (hb hby at_76) rfl ?_
      refine XS.bipush X0.here hx rfl (hb hby at_77) ?_
      refine XT.ishr X0.here hx rfl (hb hby at_79) rfl ?_
      refine XS.istore X0.here hx rfl (hb hby at_80) rfl (l' := (own_L11 p0 p1 p2 p3 p4 p5 (p0 &&& (1048575 : Int32)) (p1 &&& (1048575 : Int32)) (own_v0_0 p2) (own_v0_1 p3) (own_v0_2 p4) (own_v0_3 p4) (own_v0_4 p4) (p4 >>> ((11 : Int32) &&& 31)) (own_v0_6 p5))) rfl ?_
      refine XS.iload X0.here hx rfl (hb hby at_82) rfl ?_
      refine XS.iconst X0.here hx rfl (hb hby at_84) ?_
      refine stk3 _ ?_
      show Steps p.tables e below (Tk3.setTop (mkF m 88 (own_L11 p0 p1 p2 p3 p4 p5 (p0 &&& (1048575 : Int32)) (p1 &&& (1048575 : Int32)) (own_v0_0 p2) (own_v0_1 p3) (own_v0_2 p4) (own_v0_3 p4) (own_v0_4 p4) (p4 >>> ((11 : Int32) &&& 31)) (own_v0_6 p5)) [(.int 0)])) _
      refine XS.istore Xk3.here hx rfl (hb hby at_88) rfl (l' := (own_L12 p0 p1 p2 p3 p4 p5 (p0 &&& (1048575 : Int32)) (p1 &&& (1048575 : Int32)) (own_v0_0 p2) (own_v0_1 p3) (own_v0_2 p4) (own_v0_3 p4) (own_v0_4 p4) (p4 >>> ((11 : Int32) &&& 31)) (own_v0_6 p5))) rfl ?_
      refine XS.iload Xk3.here hx rfl (hb hby at_90) rfl ?_
      refine XS.iconst Xk3.here hx rfl (hb hby at_92) ?_
      refine XS.icmpYes Xk3.here hx rfl (pc0 := 93) (pc' := 100) rfl (hb hby at_93) rfl (XT.ii_ne_t (by decide : ¬ ((0 : Int32) = (3 : Int32)))) (by decide) (by decide) ?_
      refine XS.iconst Xk3.here hx rfl (hb hby at_100) ?_
      refine XS.istore Xk3.here hx rfl (hb hby at_101) rfl (l' := (own_L13 p0 p1 p2 p3 p4 p5 (p0 &&& (1048575 : Int32)) (p1 &&& (1048575 : Int32)) (own_v0_0 p2) (own_v0_1 p3) (own_v0_2 p4) (own_v0_3 p4) (own_v0_4 p4) (p4 >>> ((11 : Int32) &&& 31)) (own_v0_6 p5))) rfl ?_
      refine stn4 _ ?_
      show Steps p.tables e below (Tn4.setTop (mkF m 106 (own_L13 p0 p1 p2 p3 p4 p5 (p0 &&& (1048575 : Int32)) (p1 &&& (1048575 : Int32)) (own_v0_0 p2) (own_v0_1 p3) (own_v0_2 p4) (own_v0_3 p4) (own_v0_4 p4) (p4 >>> ((11 : Int32) &&& 31)) (own_v0_6 p5)) [(.ref tt)])) _
      refine XS.dup Xn4.here hx rfl (hb hby at_106) rfl rfl ?_
      refine stk5.trans ?_
      refine XS.astore Xk5.here hx rfl (hb hby at_110) rfl rfl (l' := (own_L14 p0 p1 p2 p3 p4 p5 (p0 &&& (1048575 : Int32)) (p1 &&& (1048575 : Int32)) (own_v0_0 p2) (own_v0_1 p3) (own_v0_2 p4) (own_v0_3 p4) (own_v0_4 p4) (p4 >>> ((11 : Int32) &&& 31)) (own_v0_6 p5) tt)) rfl ?_
      refine XT.lconst Xk5.here hx rfl (hb hby at_112) ?_
      refine XT.lstore Xk5.here hx rfl (hb hby at_113) rfl (l' := (own_L15 p0 p1 p2 p3 p4 p5 (p0 &&& (1048575 : Int32)) (p1 &&& (1048575 : Int32)) (own_v0_0 p2) (own_v0_1 p3) (own_v0_2 p4) (own_v0_3 p4) (own_v0_4 p4) (p4 >>> ((11 : Int32) &&& 31)) (own_v0_6 p5) tt)) rfl ?_
      refine XS.iload Xk5.here hx rfl (hb hby at_115) rfl ?_
      refine XS.iconst Xk5.here hx rfl (hb hby at_117) ?_
      refine XS.icmpYes Xk5.here hx rfl (pc0 := 118) (pc' := 288) rfl (hb hby at_118) rfl (XT.ii_lt_t (by decide : (0 : Int32) < (1 : Int32))) (by decide) (by decide) ?_
      refine XS.aload Xk5.here hx rfl (hb hby at_288) rfl rfl ?_
      refine stk6.trans ?_
      show Steps p.tables e below (Tk6.setTop (mkF m 293 (own_L15 p0 p1 p2 p3 p4 p5 (p0 &&& (1048575 : Int32)) (p1 &&& (1048575 : Int32)) (own_v0_0 p2) (own_v0_1 p3) (own_v0_2 p4) (own_v0_3 p4) (own_v0_4 p4) (p4 >>> ((11 : Int32) &&& 31)) (own_v0_6 p5) tt) [(.double 0)])) _
      refine Xk6.ldc2DoubleC hx hown (mvT hZ (own_W hw 123 rfl)) (g := (mkF m 293 (own_L15 p0 p1 p2 p3 p4 p5 (p0 &&& (1048575 : Int32)) (p1 &&& (1048575 : Int32)) (own_v0_0 p2) (own_v0_1 p3) (own_v0_2 p4) (own_v0_3 p4) (own_v0_4 p4) (p4 >>> ((11 : Int32) &&& 31)) (own_v0_6 p5) tt) [(.double 0)])) rfl (hb hby at_293) _ ?_
      refine XS.dmulS Xk6.here hx rfl (hb hby at_296) rfl nn296 rfl ?_
      refine XT.lload Xk6.here hx rfl (hb hby at_297) rfl ?_
      refine XS.l2dS Xk6.here hx rfl (hb hby at_299) rfl rfl ?_
      refine XS.dcmpS Xk6.here hx rfl (hb hby at_300) rfl rfl ?_
      refine XS.ifNo Xk6.here hx rfl (hb hby at_301) rfl (XT.i0_ne_f hc301) ?_
      refine XS.iconst Xk6.here hx rfl (hb hby at_304) ?_
      refine XS.goto Xk6.here hx rfl (pc0 := 305) (pc' := 309) rfl (hb hby at_305) (by decide) (by decide) ?_
      show Steps p.tables e below (Tk6.setTop (mkF m 309 (own_L15 p0 p1 p2 p3 p4 p5 (p0 &&& (1048575 : Int32)) (p1 &&& (1048575 : Int32)) (own_v0_0 p2) (own_v0_1 p3) (own_v0_2 p4) (own_v0_3 p4) (own_v0_4 p4) (p4 >>> ((11 : Int32) &&& 31)) (own_v0_6 p5) tt) [(.int 1)])) _
      exact retN Xk6 hx (t := .boolean) Bd.returns (by simp) (hb hby at_309) hr
    · show own_Q0 Z p0 p1 p2 p3 p4 p5 h0 n0 _ Tk6.heap _
      exact ⟨rfl, Nk6⟩
  · have K7 : ∀ t, Steps p.tables e below (s₁.setTop (mkF m 65 (own_L17 p0 p1 p2 p3 p4 p5 (p0 &&& (1048575 : Int32)) (p1 &&& (1048575 : Int32)) (own_v0_0 p2) (own_v0_1 p3) (own_v0_2 p4) (own_v0_3 p4) (own_v0_4 p4)) [])) t → Steps p.tables e below (s₁.setTop (mkF m 65 (own_L8 p0 p1 p2 p3 p4 p5 (p0 &&& (1048575 : Int32)) (p1 &&& (1048575 : Int32)) (own_v0_0 p2) (own_v0_1 p3) (own_v0_2 p4) (own_v0_3 p4) (own_v0_4 p4) (own_v0_5 p4)) [])) t := by intro t kt; rw [hs1]; exact kt
    obtain ⟨_, _, ⟨Tk8, Lk8, kk8, nk8⟩, -, Xk8, ⟨Lck8, hQk8, lk8, yk8, zk8⟩, stk8⟩ := Jvm.LawKit.callS X0 hx (y := (⟨"java/lang/Math", "min", "(II)I"⟩ : MethodName)) hown (mvT hZ (own_W hw 1 rfl)) (mvT hZ (own_W hw 2 rfl)) (mvT hZ (own_W hw 3 rfl)) (mvT hZ (own_W hw 4 rfl)) (by decide) (backOf (W := 0) (own_rm1_1_2 l Z a0 hw []  h0 n0 Z0) hZ (own_W hw 4 rfl) (own_W hw 3 rfl) (by decide) (by decide)) (g := (mkF m 85 (own_L19 p0 p1 p2 p3 p4 p5 (p0 &&& (1048575 : Int32)) (p1 &&& (1048575 : Int32)) (own_v0_0 p2) (own_v0_1 p3) (own_v0_2 p4) (own_v0_3 p4) (own_v0_4 p4) (p4 >>> ((11 : Int32) &&& 31)) (own_v0_6 p5)) [(.int 2), (.int 1)])) rfl (by rw [hml]; rfl) (argsL := [(.int 1), (.int 2)]) (rest := []) (lenOf own_pd2 rfl) rfl (by show 2 * 0 + _ ≤ _; exact Nat.le_of_eq rfl) (hb hby at_85) (fun _ _ => ⟨rfl, e0, (by decide : 0 + 0 ≤ _), (by decide : 0 + 0 ≤ _)⟩)
    dsimp only [Pt.U, Pt.locs, Pt.cells, Pt.slots] at Xk8 lk8 yk8 zk8 stk8 hQk8
    replace lk8 := lk8.symm; replace yk8 := yk8.symm; replace zk8 := zk8.symm; subst lk8 yk8 zk8
    obtain ⟨rfl, Nk8q, ek8⟩ := hQk8
    have Nk8 := Fr.app N0 Nk8q
    obtain ⟨Tn9, hn9, Xn9, en9, En9, An9, Dn9, -, stn9⟩ := newO Xk8 hx hZ hown (own_W hw 5 rfl) (own_W hw 6 rfl) (own_W hw 7 rfl) ek8 (g := (mkF m 103 (own_L21 p0 p1 p2 p3 p4 p5 (p0 &&& (1048575 : Int32)) (p1 &&& (1048575 : Int32)) (own_v0_0 p2) (own_v0_1 p3) (own_v0_2 p4) (own_v0_3 p4) (own_v0_4 p4) (p4 >>> ((11 : Int32) &&& 31)) (own_v0_6 p5)) [])) rfl (hb hby at_103) (by decide) (by decide)
    obtain ⟨tt, gn9⟩ : ∃ z, z = h0.size := ⟨_, rfl⟩
    rw [← gn9] at An9 Dn9 stn9
    have Bn9 := own_R_new An9 (n0 := n0) (by rw [gn9]; exact Z0) (fun i hi => by
      match i, hi with
      | 0, _ => exact Dn9 (Or.inl (own_W hw 17 rfl)) (ty := (.array (.array .int))) (by decide)
      | 1, _ => exact Dn9 (Or.inl (own_W hw 21 rfl)) (ty := (.array (.array .double))) (by decide)
      | 2, _ => exact Dn9 (Or.inl (own_W hw 24 rfl)) (ty := (.array .double)) (by decide)
      | 3, _ => exact Dn9 (Or.inl (own_W hw 27 rfl)) (ty := (.array .int)) (by decide)
      | 4, _ => exact Dn9 (Or.inl (own_W hw 29 rfl)) (ty := (.array .double)) (by decide)
      | 5, _ => exact Dn9 (Or.inl (own_W hw 31 rfl)) (ty := (.array .double)) (by decide)
      | 6, _ => exact Dn9 (Or.inl (own_W hw 33 rfl)) (ty := (.array (.array .int))) (by decide)
      | 7, _ => exact Dn9 (Or.inl (own_W hw 35 rfl)) (ty := (.array (.array .double))) (by decide)
      | 8, _ => exact Dn9 (Or.inl (own_W hw 37 rfl)) (ty := (.array .int)) (by decide)
      | 9, _ => exact Dn9 (Or.inl (own_W hw 39 rfl)) (ty := (.array .int)) (by decide)
      | 10, _ => exact Dn9 (Or.inl (own_W hw 42 rfl)) (ty := (.array .boolean)) (by decide)
      | 11, _ => exact Dn9 (Or.inl (own_W hw 46 rfl)) (ty := (.array .double)) (by decide)
      | 12, _ => exact Dn9 (Or.inl (own_W hw 48 rfl)) (ty := (.array .int)) (by decide)
      | 13, _ => exact Dn9 (Or.inl (own_W hw 50 rfl)) (ty := (.array .double)) (by decide)
      | 14, _ => exact Dn9 (Or.inl (own_W hw 52 rfl)) (ty := (.array .double)) (by decide)
      | 15, _ => exact Dn9 (Or.inl (own_W hw 143 rfl)) (ty := .int) (by decide)
      | 16, _ => exact Dn9 (Or.inl (own_W hw 190 rfl)) (ty := .int) (by decide)
      | 17, _ => exact Dn9 (Or.inl (own_W hw 122 rfl)) (ty := .int) (by decide)
      | 18, _ => exact Dn9 (Or.inl (own_W hw 44 rfl)) (ty := .int) (by decide)
      | 19, _ => exact Dn9 (Or.inl (own_W hw 136 rfl)) (ty := .boolean) (by decide)
      | 20, _ => exact Dn9 (Or.inl (own_W hw 115 rfl)) (ty := .boolean) (by decide)
      | 21, _ => exact Dn9 (Or.inr (own_W hw 113 rfl)) (ty := (.object "com/example/placewright/placewright/solver/BasisFactorization")) (by decide)
      | k + 22, hk => omega)
    obtain ⟨_, _, ⟨Tk10, Lk10, kk10, nk10⟩, -, Xk10, ⟨Lck10, hQk10, lk10, yk10, zk10⟩, stk10⟩ := Xn9.specialBack hx (y := (⟨"com/example/placewright/placewright/solver/RevisedSimplex", "<init>", "()V"⟩ : MethodName)) rfl hown (mvT hZ (own_W hw 8 rfl)) (mvT hZ (own_W hw 9 rfl)) (mvT hZ (own_W hw 10 rfl)) (by decide) (backOf (W := 1) (own_rm2a l Z a0 hw [] tt _ _ _ _ hn9 n0 (own_R_sz Bn9) Bn9 rfl rfl rfl rfl) hZ (own_W hw 10 rfl) (own_W hw 7 rfl) (by decide) (by decide)) (g := (mkF m 107 (own_L21 p0 p1 p2 p3 p4 p5 (p0 &&& (1048575 : Int32)) (p1 &&& (1048575 : Int32)) (own_v0_0 p2) (own_v0_1 p3) (own_v0_2 p4) (own_v0_3 p4) (own_v0_4 p4) (p4 >>> ((11 : Int32) &&& 31)) (own_v0_6 p5)) [(.ref tt), (.ref tt)])) rfl (by rw [hml]; rfl) (Steps.refl _) (a := tt) (argsL := []) (rest := [(.ref tt)]) (lenOf own_pd0 rfl) rfl (by show 2 * 0 + _ ≤ _; exact Nat.le_of_eq rfl) (hb hby at_107) (fun _ _ => ⟨rfl, en9, (by decide : 1 + 40 ≤ _), (by decide : 26 + 339 ≤ _)⟩)
    dsimp only [Pt.U, Pt.locs, Pt.cells, Pt.slots] at Xk10 lk10 yk10 zk10 stk10 hQk10
    replace lk10 := lk10.symm; replace yk10 := yk10.symm; replace zk10 := zk10.symm; subst lk10 yk10 zk10
    obtain ⟨aA, aK, aF, aV, rfl, Nk10q, Bk10, f0_k10, f1_k10, f2_k10, f3_k10, v15_k10, v16_k10, v17_k10, v18_k10, v19_k10⟩ := hQk10
    have Nk10 := Fr.app Nk8 Nk10q
    obtain ⟨Tn11, hn11, bn11, kn11, Xn11, en11, Bn11, stn11⟩ := own_na Xk10 hx hZ (own_W hw 25 rfl) rfl Bk10 .int rfl (fun _ => trivial) (by decide) (g := (mkF m 127 (own_L23 p0 p1 p2 p3 p4 p5 (p0 &&& (1048575 : Int32)) (p1 &&& (1048575 : Int32)) (own_v0_0 p2) (own_v0_1 p3) (own_v0_2 p4) (own_v0_3 p4) (own_v0_4 p4) (p4 >>> ((11 : Int32) &&& 31)) (own_v0_6 p5) tt) [(.int 0), (.double (FP.i2d (p0 &&& (1048575 : Int32)))), (.ref tt)])) rfl (hb hby at_127) rfl (by decide) (cap := 0) (by decide) (by decide) (by decide) (by decide)
    obtain ⟨Tn12, hn12, bn12, kn12, Xn12, en12, Bn12, stn12⟩ := own_na Xn11 hx hZ (own_W hw 22 rfl) en11 Bn11 .double rfl (fun _ => trivial) (by decide) (g := (mkF m 130 (own_L23 p0 p1 p2 p3 p4 p5 (p0 &&& (1048575 : Int32)) (p1 &&& (1048575 : Int32)) (own_v0_0 p2) (own_v0_1 p3) (own_v0_2 p4) (own_v0_3 p4) (own_v0_4 p4) (p4 >>> ((11 : Int32) &&& 31)) (own_v0_6 p5) tt) [(.int 0), (.ref bn11), (.double (FP.i2d (p0 &&& (1048575 : Int32)))), (.ref tt)])) rfl (hb hby at_130) rfl (by decide) (cap := 0) (by decide) (by decide) (by decide) (by decide)
    have B14 : own_R 15 Z n0 hn12 tt aA aK _ _ (⟨bn11, kn11, .int, 0, some (own_all (.int 0))⟩ :: ⟨bn12, kn12, .double, 0, some (own_all (.double 0))⟩ :: []) := own_R_pick Bn12 2 [1, 0] trivial (by decide) (by decide)
    obtain ⟨cqk13, kqk13, qk13a, qk13b, qk13c⟩ := isOf hZ en12 (own_R_exa B14)
    obtain ⟨_, _, ⟨Tk13, Lk13, kk13, nk13⟩, -, Xk13, ⟨Lck13, hQk13, lk13, yk13, zk13⟩, stk13⟩ := Xn12.virtualBack hx (y := (⟨"com/example/placewright/placewright/solver/RevisedSimplex", "addRow", "(D[I[DDD)I"⟩ : MethodName)) (z := (⟨"com/example/placewright/placewright/solver/RevisedSimplex", "addRow", "(D[I[DDD)I"⟩ : MethodName)) hown (mvT hZ (own_W hw 124 rfl)) (mvT hZ (own_W hw 125 rfl)) (notFace_of_selects (args := #[]) (mvT hZ (own_W hw 127 rfl))) (mvT hZ (own_W hw 127 rfl)) (mvT hZ (own_W hw 126 rfl)) (by decide) (backOf (W := 0) (own_rm8a l Z a0 hw [] tt aA aK _ _ ([]) (FP.i2d (p0 &&& (1048575 : Int32))) _ bn11 kn11 _ bn12 kn12 (FP.i2d (own_v0_2 p4)) (FP.i2d (own_v0_0 p2)) hn12 n0 (own_R_sz B14) B14 v17_k10 v18_k10 c138_nn249 c138_nn252 c138_hc261 v15_k10 f0_k10 c138_c318_c252_c11_hc19 c138_nx349 c138_ny349) hZ (own_W hw 128 rfl) (own_W hw 7 rfl) (by decide) (by decide)) qk13a qk13c (g := (mkF m 138 (own_L23 p0 p1 p2 p3 p4 p5 (p0 &&& (1048575 : Int32)) (p1 &&& (1048575 : Int32)) (own_v0_0 p2) (own_v0_1 p3) (own_v0_2 p4) (own_v0_3 p4) (own_v0_4 p4) (p4 >>> ((11 : Int32) &&& 31)) (own_v0_6 p5) tt) [(.double (FP.i2d (own_v0_0 p2))), (.double (FP.i2d (own_v0_2 p4))), (.ref bn12), (.ref bn11), (.double (FP.i2d (p0 &&& (1048575 : Int32)))), (.ref tt)])) rfl (by rw [hml]; rfl) (Steps.refl _) (argsL := [(.double (FP.i2d (p0 &&& (1048575 : Int32)))), (.ref bn11), (.ref bn12), (.double (FP.i2d (own_v0_2 p4))), (.double (FP.i2d (own_v0_0 p2)))]) (rest := []) (lenOf own_pd8 rfl) rfl (by show 2 * 0 + _ ≤ _; exact Nat.le_of_eq rfl) (hb hby at_138) (fun _ _ => ⟨rfl, en12, (by decide : 43 + 6 ≤ _), (by decide : 365 + 8 ≤ _)⟩)
    dsimp only [Pt.U, Pt.locs, Pt.cells, Pt.slots] at Xk13 lk13 yk13 zk13 stk13 hQk13
    replace lk13 := lk13.symm; replace yk13 := yk13.symm; replace zk13 := zk13.symm; subst lk13 yk13 zk13
    obtain ⟨bk13_0, kk13_1, bk13_2, kk13_3, bk13_4, kk13_5, bk13_6, kk13_7, rfl, Nk13q, Bk13⟩ := hQk13
    have Nk13 := Fr.app Nk10 Nk13q
    obtain ⟨Tn15, hn15, bn15, kn15, Xn15, en15, Bn15, stn15⟩ := own_na Xk13 hx hZ (own_W hw 25 rfl) rfl Bk13 .int rfl (fun _ => trivial) (by decide) (g := (mkF m 146 (own_L36 p0 p1 p2 p3 p4 p5 (p0 &&& (1048575 : Int32)) (p1 &&& (1048575 : Int32)) (own_v0_0 p2) (own_v0_1 p3) (own_v0_2 p4) (own_v0_3 p4) (own_v0_4 p4) (p4 >>> ((11 : Int32) &&& 31)) (own_v0_6 p5) tt) [(.int 1), (.ref tt)])) rfl (hb hby at_146) rfl (by decide) (cap := 1) (by decide) (by decide) (by decide) (by decide)
    obtain ⟨Tn16, hn16, Ln16, Xn16, en16, Bn16, Nn16, stn16⟩ := own_shI Xn15 hx hZ en15 Bn15 Nk13 0 (by decide) (g := (mkF m 151 (own_L36 p0 p1 p2 p3 p4 p5 (p0 &&& (1048575 : Int32)) (p1 &&& (1048575 : Int32)) (own_v0_0 p2) (own_v0_1 p3) (own_v0_2 p4) (own_v0_3 p4) (own_v0_4 p4) (p4 >>> ((11 : Int32) &&& 31)) (own_v0_6 p5) tt) [(.int 0), (.int 0), (.ref bn15), (.ref bn15), (.ref tt)])) rfl rfl (hb hby at_151)
    obtain ⟨Tn17, hn17, bn17, kn17, Xn17, en17, Bn17, stn17⟩ := own_na Xn16 hx hZ (own_W hw 22 rfl) en16 Bn16 .double rfl (fun _ => trivial) (by decide) (g := (mkF m 153 (own_L36 p0 p1 p2 p3 p4 p5 (p0 &&& (1048575 : Int32)) (p1 &&& (1048575 : Int32)) (own_v0_0 p2) (own_v0_1 p3) (own_v0_2 p4) (own_v0_3 p4) (own_v0_4 p4) (p4 >>> ((11 : Int32) &&& 31)) (own_v0_6 p5) tt) [(.int 1), (.ref bn15), (.ref tt)])) rfl (hb hby at_153) rfl (by decide) (cap := 1) (by decide) (by decide) (by decide) (by decide)
    obtain ⟨Tn18, hn18, Ln18, Xn18, en18, Bn18, Nn18, stn18⟩ := own_shD Xn17 hx hZ en17 Bn17 Nn16 0 (by decide) (g := (mkF m 158 (own_L36 p0 p1 p2 p3 p4 p5 (p0 &&& (1048575 : Int32)) (p1 &&& (1048575 : Int32)) (own_v0_0 p2) (own_v0_1 p3) (own_v0_2 p4) (own_v0_3 p4) (own_v0_4 p4) (p4 >>> ((11 : Int32) &&& 31)) (own_v0_6 p5) tt) [(.double 4607182418800017408), (.int 0), (.ref bn17), (.ref bn17), (.ref bn15), (.ref tt)])) rfl rfl (hb hby at_158)
    have B20 : own_R 15 Z n0 hn18 tt aA aK _ _ (⟨bn15, kn15, .int, 1, some (own_up (own_all (.int 0)) 0 (.int 0))⟩ :: ⟨bn17, kn17, .double, 1, some (own_up (own_all (.double 0)) 0 (.double 4607182418800017408))⟩ :: ⟨bk13_4, kk13_5, .int, 2, none⟩ :: ⟨bk13_6, kk13_7, .double, 2, none⟩ :: ⟨bk13_0, kk13_1, .double, 1, none⟩ :: ⟨bk13_2, kk13_3, .int, 1, none⟩ :: []) := own_R_pick Bn18 8 [1, 0, 4, 5, 2, 3] trivial (by decide) (by decide)
    obtain ⟨cqk19, kqk19, qk19a, qk19b, qk19c⟩ := isOf hZ en18 (own_R_exa B20)
    obtain ⟨_, _, ⟨Tk19, Lk19, kk19, nk19⟩, -, Xk19, ⟨Lck19, hQk19, lk19, yk19, zk19⟩, stk19⟩ := Xn18.virtualBack hx (y := (⟨"com/example/placewright/placewright/solver/RevisedSimplex", "addColumn", "([I[DD)I"⟩ : MethodName)) (z := (⟨"com/example/placewright/placewright/solver/RevisedSimplex", "addColumn", "([I[DD)I"⟩ : MethodName)) hown (mvT hZ (own_W hw 170 rfl)) (mvT hZ (own_W hw 138 rfl)) (notFace_of_selects (args := #[]) (mvT hZ (own_W hw 140 rfl))) (mvT hZ (own_W hw 140 rfl)) (mvT hZ (own_W hw 139 rfl)) (by decide) (backOf (W := 0) (own_rm10b l Z a0 hw [] tt aA aK _ _ (⟨bk13_0, kk13_1, .double, 1, none⟩ :: ⟨bk13_2, kk13_3, .int, 1, none⟩ :: []) _ bn15 kn15 _ bn17 kn17 (FP.i2d (own_v0_6 p5)) bk13_4 kk13_5 bk13_6 kk13_7 hn18 n0 (own_R_sz B20) B20 rfl rfl rfl rfl rfl rfl rfl f1_k10 c138_c318_c252_c11_hc19) hZ (own_W hw 141 rfl) (own_W hw 7 rfl) (by decide) (by decide)) qk19a qk19c (g := (mkF m 162 (own_L36 p0 p1 p2 p3 p4 p5 (p0 &&& (1048575 : Int32)) (p1 &&& (1048575 : Int32)) (own_v0_0 p2) (own_v0_1 p3) (own_v0_2 p4) (own_v0_3 p4) (own_v0_4 p4) (p4 >>> ((11 : Int32) &&& 31)) (own_v0_6 p5) tt) [(.double (FP.i2d (own_v0_6 p5))), (.ref bn17), (.ref bn15), (.ref tt)])) rfl (by rw [hml]; rfl) (Steps.refl _) (argsL := [(.ref bn15), (.ref bn17), (.double (FP.i2d (own_v0_6 p5)))]) (rest := []) (lenOf own_pd6 rfl) rfl (by show 2 * 0 + _ ≤ _; exact Nat.le_of_eq rfl) (hb hby at_162) (fun _ _ => ⟨rfl, en18, (by decide : 51 + 2 ≤ _), (by decide : 375 + 2 ≤ _)⟩)
    dsimp only [Pt.U, Pt.locs, Pt.cells, Pt.slots] at Xk19 lk19 yk19 zk19 stk19 hQk19
    replace lk19 := lk19.symm; replace yk19 := yk19.symm; replace zk19 := zk19.symm; subst lk19 yk19 zk19
    obtain ⟨bk19_0, bk19_1, rfl, Nk19q, Bk19⟩ := hQk19
    have Nk19 := Fr.app Nn18 Nk19q
    have B22 : own_R 15 Z n0 Tk19.heap tt aA aK _ _ (⟨bk19_0, kn17, .double, 1, none⟩ :: ⟨bk19_1, kn15, .int, 1, none⟩ :: ⟨bk13_4, kk13_5, .int, 2, none⟩ :: ⟨bk13_6, kk13_7, .double, 2, none⟩ :: ⟨bk13_0, kk13_1, .double, 1, none⟩ :: ⟨bk13_2, kk13_3, .int, 1, none⟩ :: []) := own_R_pick Bk19 8 [0, 1, 4, 5, 6, 7] trivial (by decide) (by decide)
    obtain ⟨cqk21, kqk21, qk21a, qk21b, qk21c⟩ := isOf hZ rfl (own_R_exa B22)
    obtain ⟨_, _, ⟨Tk21, Lk21, kk21, nk21⟩, -, Xk21, ⟨Lck21, hQk21, lk21, yk21, zk21⟩, stk21⟩ := Xk19.virtualBack hx (y := (⟨"com/example/placewright/placewright/solver/RevisedSimplex", "objective", "()D"⟩ : MethodName)) (z := (⟨"com/example/placewright/placewright/solver/RevisedSimplex", "objective", "()D"⟩ : MethodName)) hown (mvT hZ (own_W hw 116 rfl)) (mvT hZ (own_W hw 117 rfl)) (notFace_of_selects (args := #[]) (mvT hZ (own_W hw 119 rfl))) (mvT hZ (own_W hw 119 rfl)) (mvT hZ (own_W hw 118 rfl)) (by decide) (backOf (W := 0) (own_rm7b l Z a0 hw [] tt aA aK _ _ (⟨bk19_0, kn17, .double, 1, none⟩ :: ⟨bk19_1, kn15, .int, 1, none⟩ :: ⟨bk13_4, kk13_5, .int, 2, none⟩ :: ⟨bk13_6, kk13_7, .double, 2, none⟩ :: ⟨bk13_0, kk13_1, .double, 1, none⟩ :: ⟨bk13_2, kk13_3, .int, 1, none⟩ :: []) (FP.i2d (own_v0_0 p2)) (own_v8a_1 (FP.i2d (p0 &&& (1048575 : Int32))) (FP.i2d (own_v0_2 p4))) Tk19.heap n0 (own_R_sz B22) B22 rfl rfl rfl rfl c290_nn30 c290_nn31) hZ (own_W hw 120 rfl) (own_W hw 7 rfl) (by decide) (by decide)) qk21a qk21c (g := (mkF m 290 (own_L43 p0 p1 p2 p3 p4 p5 (p0 &&& (1048575 : Int32)) (p1 &&& (1048575 : Int32)) (own_v0_0 p2) (own_v0_1 p3) (own_v0_2 p4) (own_v0_3 p4) (own_v0_4 p4) (p4 >>> ((11 : Int32) &&& 31)) (own_v0_6 p5) tt (own_v0_8 p0 p2 p4) ((own_v0_0 p2).toInt64) (own_v0_7 p0 p4)) [(.ref tt)])) rfl (by rw [hml]; rfl) (Steps.refl _) (argsL := []) (rest := []) (lenOf own_pd3 rfl) rfl (by show 2 * 0 + _ ≤ _; exact Nat.le_of_eq rfl) (hb hby at_290) (fun _ _ => ⟨rfl, rfl, (by decide : 53 + 0 ≤ _), (by decide : 377 + 0 ≤ _)⟩)
    dsimp only [Pt.U, Pt.locs, Pt.cells, Pt.slots] at Xk21 lk21 yk21 zk21 stk21 hQk21
    replace lk21 := lk21.symm; replace yk21 := yk21.symm; replace zk21 := zk21.symm; subst lk21 yk21 zk21
    obtain ⟨rfl, Nk21q, Bk21⟩ := hQk21
    have Nk21 := Fr.app Nk19 Nk21q
    obtain ⟨fs, hr, hrun, hended, hW, hsame⟩ := Xk21.leave (v := some (.int 1)) (fun h => by rw [Bd.returns] at h; cases h)
    refine ⟨_, _, pre0 _ (Ks1 _ (K7 _ (?_))), hrun, hended, _, _, rfl, ?_, ⟨_, rfl⟩, hW, hsame.mono (by decide) (by decide)⟩
    · show Steps p.tables e below (s₁.setTop (mkF m 65 (own_L17 p0 p1 p2 p3 p4 p5 (p0 &&& (1048575 : Int32)) (p1 &&& (1048575 : Int32)) (own_v0_0 p2) (own_v0_1 p3) (own_v0_2 p4) (own_v0_3 p4) (own_v0_4 p4)) [])) _
      refine XS.iload X0.here hx rfl (hb hby at_65) rfl ?_
      refine XS.bipush X0.here hx rfl (hb hby at_67) ?_
      refine XT.ishr X0.here hx rfl (hb hby at_69) rfl ?_
      refine XS.istore X0.here hx rfl (hb hby at_70) rfl (l' := (own_L18 p0 p1 p2 p3 p4 p5 (p0 &&& (1048575 : Int32)) (p1 &&& (1048575 : Int32)) (own_v0_0 p2) (own_v0_1 p3) (own_v0_2 p4) (own_v0_3 p4) (own_v0_4 p4) (p4 >>> ((11 : Int32) &&& 31)))) rfl ?_
      refine XS.iload X0.here hx rfl (hb hby at_72) rfl ?_
      refine XS.bipush X0.here hx rfl (hb hby at_74) ?_
      refine XT.ishl X0.here hx rfl (hb hby at_76) rfl ?_
      refine XS.bipush X0.here hx rfl (hb hby at_77) ?_
      refine XT.ishr X0.here hx rfl (hb hby at_79) rfl ?_
      refine XS.istore X0.here hx rfl (hb hby at_80) rfl (l' := (own_L19 p0 p1 p2 p3 p4 p5 (p0 &&& (1048575 : Int32)) (p1 &&& (1048575 : Int32)) (own_v0_0 p2) (own_v0_1 p3) (own_v0_2 p4) (own_v0_3 p4) (own_v0_4 p4) (p4 >>> ((11 : Int32) &&& 31)) (own_v0_6 p5))) rfl ?_
      refine XS.iload X0.here hx rfl (hb hby at_82) rfl ?_
      refine XS.iconst X0.here hx rfl (hb hby at_84) ?_
      refine stk8 _ ?_
      show Steps p.tables e below (Tk8.setTop (mkF m 88 (own_L19 p0 p1 p2 p3 p4 p5 (p0 &&& (1048575 : Int32)) (p1 &&& (1048575 : Int32)) (own_v0_0 p2) (own_v0_1 p3) (own_v0_2 p4) (own_v0_3 p4) (own_v0_4 p4) (p4 >>> ((11 : Int32) &&& 31)) (own_v0_6 p5)) [(.int 1)])) _
      refine XS.istore Xk8.here hx rfl (hb hby at_88) rfl (l' := (own_L20 p0 p1 p2 p3 p4 p5 (p0 &&& (1048575 : Int32)) (p1 &&& (1048575 : Int32)) (own_v0_0 p2) (own_v0_1 p3) (own_v0_2 p4) (own_v0_3 p4) (own_v0_4 p4) (p4 >>> ((11 : Int32) &&& 31)) (own_v0_6 p5))) rfl ?_
      refine XS.iload Xk8.here hx rfl (hb hby at_90) rfl ?_
      refine XS.iconst Xk8.here hx rfl (hb hby at_92) ?_
      refine XS.icmpYes Xk8.here hx rfl (pc0 := 93) (pc' := 100) rfl (hb hby at_93) rfl (XT.ii_ne_t (by decide : ¬ ((1 : Int32) = (3 : Int32)))) (by decide) (by decide) ?_
      refine XS.iconst Xk8.here hx rfl (hb hby at_100) ?_
      refine XS.istore Xk8.here hx rfl (hb hby at_101) rfl (l' := (own_L21 p0 p1 p2 p3 p4 p5 (p0 &&& (1048575 : Int32)) (p1 &&& (1048575 : Int32)) (own_v0_0 p2) (own_v0_1 p3) (own_v0_2 p4) (own_v0_3 p4) (own_v0_4 p4) (p4 >>> ((11 : Int32) &&& 31)) (own_v0_6 p5))) rfl ?_
      refine stn9 _ ?_
      show Steps p.tables e below (Tn9.setTop (mkF m 106 (own_L21 p0 p1 p2 p3 p4 p5 (p0 &&& (1048575 : Int32)) (p1 &&& (1048575 : Int32)) (own_v0_0 p2) (own_v0_1 p3) (own_v0_2 p4) (own_v0_3 p4) (own_v0_4 p4) (p4 >>> ((11 : Int32) &&& 31)) (own_v0_6 p5)) [(.ref tt)])) _
      refine XS.dup Xn9.here hx rfl (hb hby at_106) rfl rfl ?_
      refine stk10.trans ?_
      refine XS.astore Xk10.here hx rfl (hb hby at_110) rfl rfl (l' := (own_L22 p0 p1 p2 p3 p4 p5 (p0 &&& (1048575 : Int32)) (p1 &&& (1048575 : Int32)) (own_v0_0 p2) (own_v0_1 p3) (own_v0_2 p4) (own_v0_3 p4) (own_v0_4 p4) (p4 >>> ((11 : Int32) &&& 31)) (own_v0_6 p5) tt)) rfl ?_
      refine XT.lconst Xk10.here hx rfl (hb hby at_112) ?_
      refine XT.lstore Xk10.here hx rfl (hb hby at_113) rfl (l' := (own_L23 p0 p1 p2 p3 p4 p5 (p0 &&& (1048575 : Int32)) (p1 &&& (1048575 : Int32)) (own_v0_0 p2) (own_v0_1 p3) (own_v0_2 p4) (own_v0_3 p4) (own_v0_4 p4) (p4 >>> ((11 : Int32) &&& 31)) (own_v0_6 p5) tt)) rfl ?_
      refine XS.iload Xk10.here hx rfl (hb hby at_115) rfl ?_
      refine XS.iconst Xk10.here hx rfl (hb hby at_117) ?_
      refine XS.icmpNo Xk10.here hx rfl (hb hby at_118) rfl (XT.ii_lt_f (by decide : ¬ ((1 : Int32) < (1 : Int32)))) ?_
      refine XS.aload Xk10.here hx rfl (hb hby at_121) rfl rfl ?_
      refine XS.iload Xk10.here hx rfl (hb hby at_123) rfl ?_
      refine XS.i2dS Xk10.here hx rfl (hb hby at_125) rfl rfl ?_
      refine XS.iconst Xk10.here hx rfl (hb hby at_126) ?_
      refine stn11 _ ?_
      show Steps p.tables e below (Tn11.setTop (mkF m 129 (own_L23 p0 p1 p2 p3 p4 p5 (p0 &&& (1048575 : Int32)) (p1 &&& (1048575 : Int32)) (own_v0_0 p2) (own_v0_1 p3) (own_v0_2 p4) (own_v0_3 p4) (own_v0_4 p4) (p4 >>> ((11 : Int32) &&& 31)) (own_v0_6 p5) tt) [(.ref bn11), (.double (FP.i2d (p0 &&& (1048575 : Int32)))), (.ref tt)])) _
      refine XS.iconst Xn11.here hx rfl (hb hby at_129) ?_
      refine stn12 _ ?_
      refine XS.iload Xn12.here hx rfl (hb hby at_132) rfl ?_
      refine XS.i2dS Xn12.here hx rfl (hb hby at_134) rfl rfl ?_
      refine XS.iload Xn12.here hx rfl (hb hby at_135) rfl ?_
      refine XS.i2dS Xn12.here hx rfl (hb hby at_137) rfl rfl ?_
      refine stk13.trans ?_
      show Steps p.tables e below (Tk13.setTop (mkF m 141 (own_L23 p0 p1 p2 p3 p4 p5 (p0 &&& (1048575 : Int32)) (p1 &&& (1048575 : Int32)) (own_v0_0 p2) (own_v0_1 p3) (own_v0_2 p4) (own_v0_3 p4) (own_v0_4 p4) (p4 >>> ((11 : Int32) &&& 31)) (own_v0_6 p5) tt) [(.int 0)])) _
      refine XS.istore Xk13.here hx rfl (hb hby at_141) rfl (l' := (own_L36 p0 p1 p2 p3 p4 p5 (p0 &&& (1048575 : Int32)) (p1 &&& (1048575 : Int32)) (own_v0_0 p2) (own_v0_1 p3) (own_v0_2 p4) (own_v0_3 p4) (own_v0_4 p4) (p4 >>> ((11 : Int32) &&& 31)) (own_v0_6 p5) tt)) rfl ?_
      refine XS.aload Xk13.here hx rfl (hb hby at_143) rfl rfl ?_
      refine XS.iconst Xk13.here hx rfl (hb hby at_145) ?_
      refine stn15 _ ?_
      show Steps p.tables e below (Tn15.setTop (mkF m 148 (own_L36 p0 p1 p2 p3 p4 p5 (p0 &&& (1048575 : Int32)) (p1 &&& (1048575 : Int32)) (own_v0_0 p2) (own_v0_1 p3) (own_v0_2 p4) (own_v0_3 p4) (own_v0_4 p4) (p4 >>> ((11 : Int32) &&& 31)) (own_v0_6 p5) tt) [(.ref bn15), (.ref tt)])) _
      refine XS.dup Xn15.here hx rfl (hb hby at_148) rfl rfl ?_
      refine XS.iconst Xn15.here hx rfl (hb hby at_149) ?_
      refine XS.iconst Xn15.here hx rfl (hb hby at_150) ?_
      refine stn16 _ ?_
      show Steps p.tables e below (Tn16.setTop (mkF m 152 (own_L36 p0 p1 p2 p3 p4 p5 (p0 &&& (1048575 : Int32)) (p1 &&& (1048575 : Int32)) (own_v0_0 p2) (own_v0_1 p3) (own_v0_2 p4) (own_v0_3 p4) (own_v0_4 p4) (p4 >>> ((11 : Int32) &&& 31)) (own_v0_6 p5) tt) [(.ref bn15), (.ref tt)])) _
      refine XS.iconst Xn16.here hx rfl (hb hby at_152) ?_
      refine stn17 _ ?_
      refine XS.dup Xn17.here hx rfl (hb hby at_155) rfl rfl ?_
      refine XS.iconst Xn17.here hx rfl (hb hby at_156) ?_
      refine XS.dconst1 Xn17.here hx rfl (hb hby at_157) (v := (4607182418800017408 : UInt64)) (by decide +kernel) ?_
      show Steps p.tables e below (Tn17.setTop (mkF m 158 (own_L36 p0 p1 p2 p3 p4 p5 (p0 &&& (1048575 : Int32)) (p1 &&& (1048575 : Int32)) (own_v0_0 p2) (own_v0_1 p3) (own_v0_2 p4) (own_v0_3 p4) (own_v0_4 p4) (p4 >>> ((11 : Int32) &&& 31)) (own_v0_6 p5) tt) [(.double 4607182418800017408), (.int 0), (.ref bn17), (.ref bn17), (.ref bn15), (.ref tt)])) _
      refine stn18 _ ?_
      refine XS.iload Xn18.here hx rfl (hb hby at_159) rfl ?_
      refine XS.i2dS Xn18.here hx rfl (hb hby at_161) rfl rfl ?_
      refine stk19.trans ?_
      show Steps p.tables e below (Tk19.setTop (mkF m 165 (own_L36 p0 p1 p2 p3 p4 p5 (p0 &&& (1048575 : Int32)) (p1 &&& (1048575 : Int32)) (own_v0_0 p2) (own_v0_1 p3) (own_v0_2 p4) (own_v0_3 p4) (own_v0_4 p4) (p4 >>> ((11 : Int32) &&& 31)) (own_v0_6 p5) tt) [(.int 1)])) _
      refine XT.pop Xk19.here hx rfl (hb hby at_165) rfl rfl ?_
      refine XS.iload Xk19.here hx rfl (hb hby at_166) rfl ?_
      refine XT.i2l Xk19.here hx rfl (hb hby at_168) rfl ?_
      refine XT.lstore Xk19.here hx rfl (hb hby at_169) rfl (l' := (own_L41 p0 p1 p2 p3 p4 p5 (p0 &&& (1048575 : Int32)) (p1 &&& (1048575 : Int32)) (own_v0_0 p2) (own_v0_1 p3) (own_v0_2 p4) (own_v0_3 p4) (own_v0_4 p4) (p4 >>> ((11 : Int32) &&& 31)) (own_v0_6 p5) tt ((own_v0_0 p2).toInt64))) rfl ?_
      refine XS.iload Xk19.here hx rfl (hb hby at_171) rfl ?_
      refine XS.ifYes Xk19.here hx rfl (pc0 := 173) (pc' := 191) rfl (hb hby at_173) rfl (XT.i0_eq_t (by decide : (0 : Int32) = (0 : Int32))) (by decide) (by decide) ?_
      refine XS.iload Xk19.here hx rfl (hb hby at_191) rfl ?_
      refine XT.i2l Xk19.here hx rfl (hb hby at_193) rfl ?_
      refine XS.bipush Xk19.here hx rfl (hb hby at_194) ?_
      refine XS.iload Xk19.here hx rfl (hb hby at_196) rfl ?_
      refine XS.idiv Xk19.here hx rfl (hb hby at_198) rfl hz198 ?_
      refine XT.i2l Xk19.here hx rfl (hb hby at_199) rfl ?_
      refine XT.lmul Xk19.here hx rfl (hb hby at_200) rfl ?_
      refine XT.lstore Xk19.here hx rfl (hb hby at_201) rfl (l' := (own_L42 p0 p1 p2 p3 p4 p5 (p0 &&& (1048575 : Int32)) (p1 &&& (1048575 : Int32)) (own_v0_0 p2) (own_v0_1 p3) (own_v0_2 p4) (own_v0_3 p4) (own_v0_4 p4) (p4 >>> ((11 : Int32) &&& 31)) (own_v0_6 p5) tt ((own_v0_0 p2).toInt64) (own_v0_7 p0 p4))) rfl ?_
      refine XT.lload Xk19.here hx rfl (hb hby at_203) rfl ?_
      refine XT.lload Xk19.here hx rfl (hb hby at_205) rfl ?_
      refine XT.lmul Xk19.here hx rfl (hb hby at_207) rfl ?_
      refine XT.lstore Xk19.here hx rfl (hb hby at_208) rfl (l' := (own_L43 p0 p1 p2 p3 p4 p5 (p0 &&& (1048575 : Int32)) (p1 &&& (1048575 : Int32)) (own_v0_0 p2) (own_v0_1 p3) (own_v0_2 p4) (own_v0_3 p4) (own_v0_4 p4) (p4 >>> ((11 : Int32) &&& 31)) (own_v0_6 p5) tt (own_v0_8 p0 p2 p4) ((own_v0_0 p2).toInt64) (own_v0_7 p0 p4))) rfl ?_
      refine XS.iload Xk19.here hx rfl (hb hby at_210) rfl ?_
      refine XS.iconst Xk19.here hx rfl (hb hby at_212) ?_
      refine XS.icmpYes Xk19.here hx rfl (pc0 := 213) (pc' := 288) rfl (hb hby at_213) rfl (XT.ii_lt_t (by decide : (1 : Int32) < (2 : Int32))) (by decide) (by decide) ?_
      refine XS.aload Xk19.here hx rfl (hb hby at_288) rfl rfl ?_
      refine stk21.trans ?_
      show Steps p.tables e below (Tk21.setTop (mkF m 293 (own_L43 p0 p1 p2 p3 p4 p5 (p0 &&& (1048575 : Int32)) (p1 &&& (1048575 : Int32)) (own_v0_0 p2) (own_v0_1 p3) (own_v0_2 p4) (own_v0_3 p4) (own_v0_4 p4) (p4 >>> ((11 : Int32) &&& 31)) (own_v0_6 p5) tt (own_v0_8 p0 p2 p4) ((own_v0_0 p2).toInt64) (own_v0_7 p0 p4)) [(.double (own_v7b_0 (FP.i2d (own_v0_0 p2)) (own_v8a_1 (FP.i2d (p0 &&& (1048575 : Int32))) (FP.i2d (own_v0_2 p4)))))])) _
      refine Xk21.ldc2DoubleC hx hown (mvT hZ (own_W hw 123 rfl)) (g := (mkF m 293 (own_L43 p0 p1 p2 p3 p4 p5 (p0 &&& (1048575 : Int32)) (p1 &&& (1048575 : Int32)) (own_v0_0 p2) (own_v0_1 p3) (own_v0_2 p4) (own_v0_3 p4) (own_v0_4 p4) (p4 >>> ((11 : Int32) &&& 31)) (own_v0_6 p5) tt (own_v0_8 p0 p2 p4) ((own_v0_0 p2).toInt64) (own_v0_7 p0 p4)) [(.double (own_v7b_0 (FP.i2d (own_v0_0 p2)) (own_v8a_1 (FP.i2d (p0 &&& (1048575 : Int32))) (FP.i2d (own_v0_2 p4)))))])) rfl (hb hby at_293) _ ?_
      refine XS.dmulS Xk21.here hx rfl (hb hby at_296) rfl nn296_2 rfl ?_
      refine XT.lload Xk21.here hx rfl (hb hby at_297) rfl ?_
      refine XS.l2dS Xk21.here hx rfl (hb hby at_299) rfl rfl ?_
      refine XS.dcmpS Xk21.here hx rfl (hb hby at_300) rfl rfl ?_
      refine XS.ifNo Xk21.here hx rfl (hb hby at_301) rfl (XT.i0_ne_f hc301_2) ?_
      refine XS.iconst Xk21.here hx rfl (hb hby at_304) ?_
      refine XS.goto Xk21.here hx rfl (pc0 := 305) (pc' := 309) rfl (hb hby at_305) (by decide) (by decide) ?_
      show Steps p.tables e below (Tk21.setTop (mkF m 309 (own_L43 p0 p1 p2 p3 p4 p5 (p0 &&& (1048575 : Int32)) (p1 &&& (1048575 : Int32)) (own_v0_0 p2) (own_v0_1 p3) (own_v0_2 p4) (own_v0_3 p4) (own_v0_4 p4) (p4 >>> ((11 : Int32) &&& 31)) (own_v0_6 p5) tt (own_v0_8 p0 p2 p4) ((own_v0_0 p2).toInt64) (own_v0_7 p0 p4)) [(.int 1)])) _
      exact retN Xk21 hx (t := .boolean) Bd.returns (by simp) (hb hby at_309) hr
    · show own_Q0 Z p0 p1 p2 p3 p4 p5 h0 n0 _ Tk21.heap _
      exact ⟨rfl, Nk21⟩
  · have K23 : ∀ t, Steps p.tables e below (s₁.setTop (mkF m 65 (own_L46 p0 p1 p2 p3 p4 p5 (p0 &&& (1048575 : Int32)) (p1 &&& (1048575 : Int32)) (own_v0_0 p2) (own_v0_1 p3) (own_v0_2 p4) (own_v0_3 p4) (own_v0_4 p4)) [])) t → Steps p.tables e below (s₁.setTop (mkF m 65 (own_L8 p0 p1 p2 p3 p4 p5 (p0 &&& (1048575 : Int32)) (p1 &&& (1048575 : Int32)) (own_v0_0 p2) (own_v0_1 p3) (own_v0_2 p4) (own_v0_3 p4) (own_v0_4 p4) (own_v0_5 p4)) [])) t := by intro t kt; rw [hs1]; exact kt
    obtain ⟨_, _, ⟨Tk24, Lk24, kk24, nk24⟩, -, Xk24, ⟨Lck24, hQk24, lk24, yk24, zk24⟩, stk24⟩ := Jvm.LawKit.callS X0 hx (y := (⟨"java/lang/Math", "min", "(II)I"⟩ : MethodName)) hown (mvT hZ (own_W hw 1 rfl)) (mvT hZ (own_W hw 2 rfl)) (mvT hZ (own_W hw 3 rfl)) (mvT hZ (own_W hw 4 rfl)) (by decide) (backOf (W := 0) (own_rm1_2_2 l Z a0 hw []  h0 n0 Z0) hZ (own_W hw 4 rfl) (own_W hw 3 rfl) (by decide) (by decide)) (g := (mkF m 85 (own_L48 p0 p1 p2 p3 p4 p5 (p0 &&& (1048575 : Int32)) (p1 &&& (1048575 : Int32)) (own_v0_0 p2) (own_v0_1 p3) (own_v0_2 p4) (own_v0_3 p4) (own_v0_4 p4) (p4 >>> ((11 : Int32) &&& 31)) (own_v0_6 p5)) [(.int 2), (.int 2)])) rfl (by rw [hml]; rfl) (argsL := [(.int 2), (.int 2)]) (rest := []) (lenOf own_pd2 rfl) rfl (by show 2 * 0 + _ ≤ _; exact Nat.le_of_eq rfl) (hb hby at_85) (fun _ _ => ⟨rfl, e0, (by decide : 0 + 0 ≤ _), (by decide : 0 + 0 ≤ _)⟩)
    dsimp only [Pt.U, Pt.locs, Pt.cells, Pt.slots] at Xk24 lk24 yk24 zk24 stk24 hQk24
    replace lk24 := lk24.symm; replace yk24 := yk24.symm; replace zk24 := zk24.symm; subst lk24 yk24 zk24
    obtain ⟨rfl, Nk24q, ek24⟩ := hQk24
    have Nk24 := Fr.app N0 Nk24q
    obtain ⟨Tn25, hn25, Xn25, en25, En25, An25, Dn25, -, stn25⟩ := newO Xk24 hx hZ hown (own_W hw 5 rfl) (own_W hw 6 rfl) (own_W hw 7 rfl) ek24 (g := (mkF m 103 (own_L50 p0 p1 p2 p3 p4 p5 (p0 &&& (1048575 : Int32)) (p1 &&& (1048575 : Int32)) (own_v0_0 p2) (own_v0_1 p3) (own_v0_2 p4) (own_v0_3 p4) (own_v0_4 p4) (p4 >>> ((11 : Int32) &&& 31)) (own_v0_6 p5)) [])) rfl (hb hby at_103) (by decide) (by decide)
    obtain ⟨tt, gn25⟩ : ∃ z, z = h0.size := ⟨_, rfl⟩
    rw [← gn25] at An25 Dn25 stn25
    have Bn25 := own_R_new An25 (n0 := n0) (by rw [gn25]; exact Z0) (fun i hi => by
      match i, hi with
      | 0, _ => exact Dn25 (Or.inl (own_W hw 17 rfl)) (ty := (.array (.array .int))) (by decide)
      | 1, _ => exact Dn25 (Or.inl (own_W hw 21 rfl)) (ty := (.array (.array .double))) (by decide)
      | 2, _ => exact Dn25 (Or.inl (own_W hw 24 rfl)) (ty := (.array .double)) (by decide)
      | 3, _ => exact Dn25 (Or.inl (own_W hw 27 rfl)) (ty := (.array .int)) (by decide)
      | 4, _ => exact Dn25 (Or.inl (own_W hw 29 rfl)) (ty := (.array .double)) (by decide)
      | 5, _ => exact Dn25 (Or.inl (own_W hw 31 rfl)) (ty := (.array .double)) (by decide)
      | 6, _ => exact Dn25 (Or.inl (own_W hw 33 rfl)) (ty := (.array (.array .int))) (by decide)
      | 7, _ => exact Dn25 (Or.inl (own_W hw 35 rfl)) (ty := (.array (.array .double))) (by decide)
      | 8, _ => exact Dn25 (Or.inl (own_W hw 37 rfl)) (ty := (.array .int)) (by decide)
      | 9, _ => exact Dn25 (Or.inl (own_W hw 39 rfl)) (ty := (.array .int)) (by decide)
      | 10, _ => exact Dn25 (Or.inl (own_W hw 42 rfl)) (ty := (.array .boolean)) (by decide)
      | 11, _ => exact Dn25 (Or.inl (own_W hw 46 rfl)) (ty := (.array .double)) (by decide)
      | 12, _ => exact Dn25 (Or.inl (own_W hw 48 rfl)) (ty := (.array .int)) (by decide)
      | 13, _ => exact Dn25 (Or.inl (own_W hw 50 rfl)) (ty := (.array .double)) (by decide)
      | 14, _ => exact Dn25 (Or.inl (own_W hw 52 rfl)) (ty := (.array .double)) (by decide)
      | 15, _ => exact Dn25 (Or.inl (own_W hw 143 rfl)) (ty := .int) (by decide)
      | 16, _ => exact Dn25 (Or.inl (own_W hw 190 rfl)) (ty := .int) (by decide)
      | 17, _ => exact Dn25 (Or.inl (own_W hw 122 rfl)) (ty := .int) (by decide)
      | 18, _ => exact Dn25 (Or.inl (own_W hw 44 rfl)) (ty := .int) (by decide)
      | 19, _ => exact Dn25 (Or.inl (own_W hw 136 rfl)) (ty := .boolean) (by decide)
      | 20, _ => exact Dn25 (Or.inl (own_W hw 115 rfl)) (ty := .boolean) (by decide)
      | 21, _ => exact Dn25 (Or.inr (own_W hw 113 rfl)) (ty := (.object "com/example/placewright/placewright/solver/BasisFactorization")) (by decide)
      | k + 22, hk => omega)
    obtain ⟨_, _, ⟨Tk26, Lk26, kk26, nk26⟩, -, Xk26, ⟨Lck26, hQk26, lk26, yk26, zk26⟩, stk26⟩ := Xn25.specialBack hx (y := (⟨"com/example/placewright/placewright/solver/RevisedSimplex", "<init>", "()V"⟩ : MethodName)) rfl hown (mvT hZ (own_W hw 8 rfl)) (mvT hZ (own_W hw 9 rfl)) (mvT hZ (own_W hw 10 rfl)) (by decide) (backOf (W := 1) (own_rm2a l Z a0 hw [] tt _ _ _ _ hn25 n0 (own_R_sz Bn25) Bn25 rfl rfl rfl rfl) hZ (own_W hw 10 rfl) (own_W hw 7 rfl) (by decide) (by decide)) (g := (mkF m 107 (own_L50 p0 p1 p2 p3 p4 p5 (p0 &&& (1048575 : Int32)) (p1 &&& (1048575 : Int32)) (own_v0_0 p2) (own_v0_1 p3) (own_v0_2 p4) (own_v0_3 p4) (own_v0_4 p4) (p4 >>> ((11 : Int32) &&& 31)) (own_v0_6 p5)) [(.ref tt), (.ref tt)])) rfl (by rw [hml]; rfl) (Steps.refl _) (a := tt) (argsL := []) (rest := [(.ref tt)]) (lenOf own_pd0 rfl) rfl (by show 2 * 0 + _ ≤ _; exact Nat.le_of_eq rfl) (hb hby at_107) (fun _ _ => ⟨rfl, en25, (by decide : 1 + 40 ≤ _), (by decide : 26 + 339 ≤ _)⟩)
    dsimp only [Pt.U, Pt.locs, Pt.cells, Pt.slots] at Xk26 lk26 yk26 zk26 stk26 hQk26
    replace lk26 := lk26.symm; replace yk26 := yk26.symm; replace zk26 := zk26.symm; subst lk26 yk26 zk26
    obtain ⟨aA, aK, aF, aV, rfl, Nk26q, Bk26, f0_k26, f1_k26, f2_k26, f3_k26, v15_k26, v16_k26, v17_k26, v18_k26, v19_k26⟩ := hQk26
    have Nk26 := Fr.app Nk24 Nk26q
    obtain ⟨Tn27, hn27, bn27, kn27, Xn27, en27, Bn27, stn27⟩ := own_na Xk26 hx hZ (own_W hw 25 rfl) rfl Bk26 .int rfl (fun _ => trivial) (by decide) (g := (mkF m 127 (own_L52 p0 p1 p2 p3 p4 p5 (p0 &&& (1048575 : Int32)) (p1 &&& (1048575 : Int32)) (own_v0_0 p2) (own_v0_1 p3) (own_v0_2 p4) (own_v0_3 p4) (own_v0_4 p4) (p4 >>> ((11 : Int32) &&& 31)) (own_v0_6 p5) tt) [(.int 0), (.double (FP.i2d (p0 &&& (1048575 : Int32)))), (.ref tt)])) rfl (hb hby at_127) rfl (by decide) (cap := 0) (by decide) (by decide) (by decide) (by decide)
    obtain ⟨Tn28, hn28, bn28, kn28, Xn28, en28, Bn28, stn28⟩ := own_na Xn27 hx hZ (own_W hw 22 rfl) en27 Bn27 .double rfl (fun _ => trivial) (by decide) (g := (mkF m 130 (own_L52 p0 p1 p2 p3 p4 p5 (p0 &&& (1048575 : Int32)) (p1 &&& (1048575 : Int32)) (own_v0_0 p2) (own_v0_1 p3) (own_v0_2 p4) (own_v0_3 p4) (own_v0_4 p4) (p4 >>> ((11 : Int32) &&& 31)) (own_v0_6 p5) tt) [(.int 0), (.ref bn27), (.double (FP.i2d (p0 &&& (1048575 : Int32)))), (.ref tt)])) rfl (hb hby at_130) rfl (by decide) (cap := 0) (by decide) (by decide) (by decide) (by decide)
    have B30 : own_R 15 Z n0 hn28 tt aA aK _ _ (⟨bn27, kn27, .int, 0, some (own_all (.int 0))⟩ :: ⟨bn28, kn28, .double, 0, some (own_all (.double 0))⟩ :: []) := own_R_pick Bn28 2 [1, 0] trivial (by decide) (by decide)
    obtain ⟨cqk29, kqk29, qk29a, qk29b, qk29c⟩ := isOf hZ en28 (own_R_exa B30)
    obtain ⟨_, _, ⟨Tk29, Lk29, kk29, nk29⟩, -, Xk29, ⟨Lck29, hQk29, lk29, yk29, zk29⟩, stk29⟩ := Xn28.virtualBack hx (y := (⟨"com/example/placewright/placewright/solver/RevisedSimplex", "addRow", "(D[I[DDD)I"⟩ : MethodName)) (z := (⟨"com/example/placewright/placewright/solver/RevisedSimplex", "addRow", "(D[I[DDD)I"⟩ : MethodName)) hown (mvT hZ (own_W hw 124 rfl)) (mvT hZ (own_W hw 125 rfl)) (notFace_of_selects (args := #[]) (mvT hZ (own_W hw 127 rfl))) (mvT hZ (own_W hw 127 rfl)) (mvT hZ (own_W hw 126 rfl)) (by decide) (backOf (W := 0) (own_rm8a l Z a0 hw [] tt aA aK _ _ ([]) (FP.i2d (p0 &&& (1048575 : Int32))) _ bn27 kn27 _ bn28 kn28 (FP.i2d (own_v0_2 p4)) (FP.i2d (own_v0_0 p2)) hn28 n0 (own_R_sz B30) B30 v17_k26 v18_k26 c138_nn249 c138_nn252 c138_hc261 v15_k26 f0_k26 c138_c318_c252_c11_hc19 c138_nx349 c138_ny349) hZ (own_W hw 128 rfl) (own_W hw 7 rfl) (by decide) (by decide)) qk29a qk29c (g := (mkF m 138 (own_L52 p0 p1 p2 p3 p4 p5 (p0 &&& (1048575 : Int32)) (p1 &&& (1048575 : Int32)) (own_v0_0 p2) (own_v0_1 p3) (own_v0_2 p4) (own_v0_3 p4) (own_v0_4 p4) (p4 >>> ((11 : Int32) &&& 31)) (own_v0_6 p5) tt) [(.double (FP.i2d (own_v0_0 p2))), (.double (FP.i2d (own_v0_2 p4))), (.ref bn28), (.ref bn27), (.double (FP.i2d (p0 &&& (1048575 : Int32)))), (.ref tt)])) rfl (by rw [hml]; rfl) (Steps.refl _) (argsL := [(.double (FP.i2d (p0 &&& (1048575 : Int32)))), (.ref bn27), (.ref bn28), (.double (FP.i2d (own_v0_2 p4))), (.double (FP.i2d (own_v0_0 p2)))]) (rest := []) (lenOf own_pd8 rfl) rfl (by show 2 * 0 + _ ≤ _; exact Nat.le_of_eq rfl) (hb hby at_138) (fun _ _ => ⟨rfl, en28, (by decide : 43 + 6 ≤ _), (by decide : 365 + 8 ≤ _)⟩)
    dsimp only [Pt.U, Pt.locs, Pt.cells, Pt.slots] at Xk29 lk29 yk29 zk29 stk29 hQk29
    replace lk29 := lk29.symm; replace yk29 := yk29.symm; replace zk29 := zk29.symm; subst lk29 yk29 zk29
    obtain ⟨bk29_0, kk29_1, bk29_2, kk29_3, bk29_4, kk29_5, bk29_6, kk29_7, rfl, Nk29q, Bk29⟩ := hQk29
    have Nk29 := Fr.app Nk26 Nk29q
    obtain ⟨Tn31, hn31, bn31, kn31, Xn31, en31, Bn31, stn31⟩ := own_na Xk29 hx hZ (own_W hw 25 rfl) rfl Bk29 .int rfl (fun _ => trivial) (by decide) (g := (mkF m 146 (own_L53 p0 p1 p2 p3 p4 p5 (p0 &&& (1048575 : Int32)) (p1 &&& (1048575 : Int32)) (own_v0_0 p2) (own_v0_1 p3) (own_v0_2 p4) (own_v0_3 p4) (own_v0_4 p4) (p4 >>> ((11 : Int32) &&& 31)) (own_v0_6 p5) tt) [(.int 1), (.ref tt)])) rfl (hb hby at_146) rfl (by decide) (cap := 1) (by decide) (by decide) (by decide) (by decide)
    obtain ⟨Tn32, hn32, Ln32, Xn32, en32, Bn32, Nn32, stn32⟩ := own_shI Xn31 hx hZ en31 Bn31 Nk29 0 (by decide) (g := (mkF m 151 (own_L53 p0 p1 p2 p3 p4 p5 (p0 &&& (1048575 : Int32)) (p1 &&& (1048575 : Int32)) (own_v0_0 p2) (own_v0_1 p3) (own_v0_2 p4) (own_v0_3 p4) (own_v0_4 p4) (p4 >>> ((11 : Int32) &&& 31)) (own_v0_6 p5) tt) [(.int 0), (.int 0), (.ref bn31), (.ref bn31), (.ref tt)])) rfl rfl (hb hby at_151)
    obtain ⟨Tn33, hn33, bn33, kn33, Xn33, en33, Bn33, stn33⟩ := own_na Xn32 hx hZ (own_W hw 22 rfl) en32 Bn32 .double rfl (fun _ => trivial) (by decide) (g := (mkF m 153 (own_L53 p0 p1 p2 p3 p4 p5 (p0 &&& (1048575 : Int32)) (p1 &&& (1048575 : Int32)) (own_v0_0 p2) (own_v0_1 p3) (own_v0_2 p4) (own_v0_3 p4) (own_v0_4 p4) (p4 >>> ((11 : Int32) &&& 31)) (own_v0_6 p5) tt) [(.int 1), (.ref bn31), (.ref tt)])) rfl (hb hby at_153) rfl (by decide) (cap := 1) (by decide) (by decide) (by decide) (by decide)
    obtain ⟨Tn34, hn34, Ln34, Xn34, en34, Bn34, Nn34, stn34⟩ := own_shD Xn33 hx hZ en33 Bn33 Nn32 0 (by decide) (g := (mkF m 158 (own_L53 p0 p1 p2 p3 p4 p5 (p0 &&& (1048575 : Int32)) (p1 &&& (1048575 : Int32)) (own_v0_0 p2) (own_v0_1 p3) (own_v0_2 p4) (own_v0_3 p4) (own_v0_4 p4) (p4 >>> ((11 : Int32) &&& 31)) (own_v0_6 p5) tt) [(.double 4607182418800017408), (.int 0), (.ref bn33), (.ref bn33), (.ref bn31), (.ref tt)])) rfl rfl (hb hby at_158)
    have B36 : own_R 15 Z n0 hn34 tt aA aK _ _ (⟨bn31, kn31, .int, 1, some (own_up (own_all (.int 0)) 0 (.int 0))⟩ :: ⟨bn33, kn33, .double, 1, some (own_up (own_all (.double 0)) 0 (.double 4607182418800017408))⟩ :: ⟨bk29_4, kk29_5, .int, 2, none⟩ :: ⟨bk29_6, kk29_7, .double, 2, none⟩ :: ⟨bk29_0, kk29_1, .double, 1, none⟩ :: ⟨bk29_2, kk29_3, .int, 1, none⟩ :: []) := own_R_pick Bn34 8 [1, 0, 4, 5, 2, 3] trivial (by decide) (by decide)
    obtain ⟨cqk35, kqk35, qk35a, qk35b, qk35c⟩ := isOf hZ en34 (own_R_exa B36)
    obtain ⟨_, _, ⟨Tk35, Lk35, kk35, nk35⟩, -, Xk35, ⟨Lck35, hQk35, lk35, yk35, zk35⟩, stk35⟩ := Xn34.virtualBack hx (y := (⟨"com/example/placewright/placewright/solver/RevisedSimplex", "addColumn", "([I[DD)I"⟩ : MethodName)) (z := (⟨"com/example/placewright/placewright/solver/RevisedSimplex", "addColumn", "([I[DD)I"⟩ : MethodName)) hown (mvT hZ (own_W hw 170 rfl)) (mvT hZ (own_W hw 138 rfl)) (notFace_of_selects (args := #[]) (mvT hZ (own_W hw 140 rfl))) (mvT hZ (own_W hw 140 rfl)) (mvT hZ (own_W hw 139 rfl)) (by decide) (backOf (W := 0) (own_rm10b l Z a0 hw [] tt aA aK _ _ (⟨bk29_0, kk29_1, .double, 1, none⟩ :: ⟨bk29_2, kk29_3, .int, 1, none⟩ :: []) _ bn31 kn31 _ bn33 kn33 (FP.i2d (own_v0_6 p5)) bk29_4 kk29_5 bk29_6 kk29_7 hn34 n0 (own_R_sz B36) B36 rfl rfl rfl rfl rfl rfl rfl f1_k26 c138_c318_c252_c11_hc19) hZ (own_W hw 141 rfl) (own_W hw 7 rfl) (by decide) (by decide)) qk35a qk35c (g := (mkF m 162 (own_L53 p0 p1 p2 p3 p4 p5 (p0 &&& (1048575 : Int32)) (p1 &&& (1048575 : Int32)) (own_v0_0 p2) (own_v0_1 p3) (own_v0_2 p4) (own_v0_3 p4) (own_v0_4 p4) (p4 >>> ((11 : Int32) &&& 31)) (own_v0_6 p5) tt) [(.double (FP.i2d (own_v0_6 p5))), (.ref bn33), (.ref bn31), (.ref tt)])) rfl (by rw [hml]; rfl) (Steps.refl _) (argsL := [(.ref bn31), (.ref bn33), (.double (FP.i2d (own_v0_6 p5)))]) (rest := []) (lenOf own_pd6 rfl) rfl (by show 2 * 0 + _ ≤ _; exact Nat.le_of_eq rfl) (hb hby at_162) (fun _ _ => ⟨rfl, en34, (by decide : 51 + 2 ≤ _), (by decide : 375 + 2 ≤ _)⟩)
    dsimp only [Pt.U, Pt.locs, Pt.cells, Pt.slots] at Xk35 lk35 yk35 zk35 stk35 hQk35
    replace lk35 := lk35.symm; replace yk35 := yk35.symm; replace zk35 := zk35.symm; subst lk35 yk35 zk35
    obtain ⟨bk35_0, bk35_1, rfl, Nk35q, Bk35⟩ := hQk35
    have Nk35 := Fr.app Nn34 Nk35q
    obtain ⟨Tn37, hn37, bn37, kn37, Xn37, en37, Bn37, stn37⟩ := own_na Xk35 hx hZ (own_W hw 25 rfl) rfl Bk35 .int rfl (fun _ => trivial) (by decide) (g := (mkF m 222 (own_L56 p0 p1 p2 p3 p4 p5 (p0 &&& (1048575 : Int32)) (p1 &&& (1048575 : Int32)) (own_v0_0 p2) (own_v0_1 p3) (own_v0_2 p4) (own_v0_3 p4) (own_v0_4 p4) (p4 >>> ((11 : Int32) &&& 31)) (own_v0_6 p5) tt (own_v0_8 p0 p2 p4) ((own_v0_0 p2).toInt64) (own_v0_7 p0 p4)) [(.int 1), (.double (FP.i2d (p1 &&& (1048575 : Int32)))), (.ref tt)])) rfl (hb hby at_222) rfl (by decide) (cap := 1) (by decide) (by decide) (by decide) (by decide)
    obtain ⟨Tn38, hn38, Ln38, Xn38, en38, Bn38, Nn38, stn38⟩ := own_shI Xn37 hx hZ en37 Bn37 Nk35 0 (by decide) (g := (mkF m 228 (own_L56 p0 p1 p2 p3 p4 p5 (p0 &&& (1048575 : Int32)) (p1 &&& (1048575 : Int32)) (own_v0_0 p2) (own_v0_1 p3) (own_v0_2 p4) (own_v0_3 p4) (own_v0_4 p4) (p4 >>> ((11 : Int32) &&& 31)) (own_v0_6 p5) tt (own_v0_8 p0 p2 p4) ((own_v0_0 p2).toInt64) (own_v0_7 p0 p4)) [(.int 0), (.int 0), (.ref bn37), (.ref bn37), (.double (FP.i2d (p1 &&& (1048575 : Int32)))), (.ref tt)])) rfl rfl (hb hby at_228)
    obtain ⟨Tn39, hn39, bn39, kn39, Xn39, en39, Bn39, stn39⟩ := own_na Xn38 hx hZ (own_W hw 22 rfl) en38 Bn38 .double rfl (fun _ => trivial) (by decide) (g := (mkF m 230 (own_L56 p0 p1 p2 p3 p4 p5 (p0 &&& (1048575 : Int32)) (p1 &&& (1048575 : Int32)) (own_v0_0 p2) (own_v0_1 p3) (own_v0_2 p4) (own_v0_3 p4) (own_v0_4 p4) (p4 >>> ((11 : Int32) &&& 31)) (own_v0_6 p5) tt (own_v0_8 p0 p2 p4) ((own_v0_0 p2).toInt64) (own_v0_7 p0 p4)) [(.int 1), (.ref bn37), (.double (FP.i2d (p1 &&& (1048575 : Int32)))), (.ref tt)])) rfl (hb hby at_230) rfl (by decide) (cap := 1) (by decide) (by decide) (by decide) (by decide)
    obtain ⟨Tn40, hn40, Ln40, Xn40, en40, Bn40, Nn40, stn40⟩ := own_shD Xn39 hx hZ en39 Bn39 Nn38 0 (by decide) (g := (mkF m 238 (own_L56 p0 p1 p2 p3 p4 p5 (p0 &&& (1048575 : Int32)) (p1 &&& (1048575 : Int32)) (own_v0_0 p2) (own_v0_1 p3) (own_v0_2 p4) (own_v0_3 p4) (own_v0_4 p4) (p4 >>> ((11 : Int32) &&& 31)) (own_v0_6 p5) tt (own_v0_8 p0 p2 p4) ((own_v0_0 p2).toInt64) (own_v0_7 p0 p4)) [(.double (FP.i2d (-(own_v0_4 p4)))), (.int 0), (.ref bn39), (.ref bn39), (.ref bn37), (.double (FP.i2d (p1 &&& (1048575 : Int32)))), (.ref tt)])) rfl rfl (hb hby at_238)
    have B42 : own_R 15 Z n0 hn40 tt aA aK _ _ (⟨bn37, kn37, .int, 1, some (own_up (own_all (.int 0)) 0 (.int 0))⟩ :: ⟨bn39, kn39, .double, 1, some (own_up (own_all (.double 0)) 0 (.double (FP.i2d (-(own_v0_4 p4)))))⟩ :: ⟨bk29_2, kk29_3, .int, 1, none⟩ :: ⟨bk29_0, kk29_1, .double, 1, none⟩ :: ⟨bk29_4, kk29_5, .int, 2, none⟩ :: ⟨bk29_6, kk29_7, .double, 2, none⟩ :: ⟨bk35_0, kn33, .double, 1, none⟩ :: ⟨bk35_1, kn31, .int, 1, none⟩ :: []) := own_R_pick Bn40 10 [1, 0, 9, 8, 6, 7, 2, 3] trivial (by decide) (by decide)
    obtain ⟨cqk41, kqk41, qk41a, qk41b, qk41c⟩ := isOf hZ en40 (own_R_exa B42)
    obtain ⟨_, _, ⟨Tk41, Lk41, kk41, nk41⟩, -, Xk41, ⟨Lck41, hQk41, lk41, yk41, zk41⟩, stk41⟩ := Xn40.virtualBack hx (y := (⟨"com/example/placewright/placewright/solver/RevisedSimplex", "addRow", "(D[I[DDD)I"⟩ : MethodName)) (z := (⟨"com/example/placewright/placewright/solver/RevisedSimplex", "addRow", "(D[I[DDD)I"⟩ : MethodName)) hown (mvT hZ (own_W hw 124 rfl)) (mvT hZ (own_W hw 125 rfl)) (notFace_of_selects (args := #[]) (mvT hZ (own_W hw 127 rfl))) (mvT hZ (own_W hw 127 rfl)) (mvT hZ (own_W hw 126 rfl)) (by decide) (backOf (W := 0) (own_rm8b l Z a0 hw [] tt aA aK _ _ (⟨bk35_0, kn33, .double, 1, none⟩ :: ⟨bk35_1, kn31, .int, 1, none⟩ :: []) (FP.i2d (p1 &&& (1048575 : Int32))) _ bn37 kn37 _ bn39 kn39 (FP.i2d (own_v0_3 p4)) (FP.i2d (own_v0_1 p3)) bk29_2 kk29_3 bk29_0 kk29_1 bk29_4 kk29_5 bk29_6 kk29_7 (FP.i2d (-(own_v0_4 p4))) (own_v8a_1 (FP.i2d (p0 &&& (1048575 : Int32))) (FP.i2d (own_v0_2 p4))) hn40 n0 (own_R_sz B42) B42 rfl v18_k26 rfl rfl rfl rfl rfl rfl c245_nn236 c245_nn237 c245_nn249 c245_nn252 c245_hc261 rfl rfl rfl f2_k26 c138_c318_c252_c11_hc19 c138_nx349 c245_ny349) hZ (own_W hw 128 rfl) (own_W hw 7 rfl) (by decide) (by decide)) qk41a qk41c (g := (mkF m 245 (own_L56 p0 p1 p2 p3 p4 p5 (p0 &&& (1048575 : Int32)) (p1 &&& (1048575 : Int32)) (own_v0_0 p2) (own_v0_1 p3) (own_v0_2 p4) (own_v0_3 p4) (own_v0_4 p4) (p4 >>> ((11 : Int32) &&& 31)) (own_v0_6 p5) tt (own_v0_8 p0 p2 p4) ((own_v0_0 p2).toInt64) (own_v0_7 p0 p4)) [(.double (FP.i2d (own_v0_1 p3))), (.double (FP.i2d (own_v0_3 p4))), (.ref bn39), (.ref bn37), (.double (FP.i2d (p1 &&& (1048575 : Int32)))), (.ref tt)])) rfl (by rw [hml]; rfl) (Steps.refl _) (argsL := [(.double (FP.i2d (p1 &&& (1048575 : Int32)))), (.ref bn37), (.ref bn39), (.double (FP.i2d (own_v0_3 p4))), (.double (FP.i2d (own_v0_1 p3)))]) (rest := []) (lenOf own_pd8 rfl) rfl (by show 2 * 0 + _ ≤ _; exact Nat.le_of_eq rfl) (hb hby at_245) (fun _ _ => ⟨rfl, en40, (by decide : 55 + 8 ≤ _), (by decide : 379 + 12 ≤ _)⟩)
    dsimp only [Pt.U, Pt.locs, Pt.cells, Pt.slots] at Xk41 lk41 yk41 zk41 stk41 hQk41
    replace lk41 := lk41.symm; replace yk41 := yk41.symm; replace zk41 := zk41.symm; subst lk41 yk41 zk41
    obtain ⟨bk41_0, kk41_1, bk41_2, kk41_3, bk41_4, kk41_5, bk41_6, kk41_7, bk41_8, kk41_9, bk41_10, kk41_11, rfl, Nk41q, Bk41⟩ := hQk41
    have Nk41 := Fr.app Nn40 Nk41q
    have B44 : own_R 15 Z n0 Tk41.heap tt aA aK _ _ (⟨bk41_0, kk41_1, .double, 1, none⟩ :: ⟨bk41_2, kk41_3, .int, 1, none⟩ :: ⟨bk41_4, kk41_5, .int, 2, none⟩ :: ⟨bk41_6, kk41_7, .double, 2, none⟩ :: ⟨bk41_8, kk41_9, .double, 2, none⟩ :: ⟨bk41_10, kk41_11, .int, 2, none⟩ :: ⟨bk29_4, kk29_5, .int, 2, none⟩ :: ⟨bk29_6, kk29_7, .double, 2, none⟩ :: ⟨bk35_0, kn33, .double, 1, none⟩ :: ⟨bk35_1, kn31, .int, 1, none⟩ :: []) := own_R_pick Bk41 14 [0, 1, 2, 3, 4, 5, 10, 11, 12, 13] trivial (by decide) (by decide)
    obtain ⟨cqk43, kqk43, qk43a, qk43b, qk43c⟩ := isOf hZ rfl (own_R_exa B44)
    obtain ⟨_, _, ⟨Tk43, Lk43, kk43, nk43⟩, -, Xk43, ⟨Lck43, hQk43, lk43, yk43, zk43⟩, stk43⟩ := Xk41.virtualBack hx (y := (⟨"com/example/placewright/placewright/solver/RevisedSimplex", "objective", "()D"⟩ : MethodName)) (z := (⟨"com/example/placewright/placewright/solver/RevisedSimplex", "objective", "()D"⟩ : MethodName)) hown (mvT hZ (own_W hw 116 rfl)) (mvT hZ (own_W hw 117 rfl)) (notFace_of_selects (args := #[]) (mvT hZ (own_W hw 119 rfl))) (mvT hZ (own_W hw 119 rfl)) (mvT hZ (own_W hw 118 rfl)) (by decide) (backOf (W := 0) (own_rm7c l Z a0 hw [] tt aA aK _ _ (⟨bk41_0, kk41_1, .double, 1, none⟩ :: ⟨bk41_2, kk41_3, .int, 1, none⟩ :: ⟨bk41_4, kk41_5, .int, 2, none⟩ :: ⟨bk41_6, kk41_7, .double, 2, none⟩ :: ⟨bk41_8, kk41_9, .double, 2, none⟩ :: ⟨bk41_10, kk41_11, .int, 2, none⟩ :: ⟨bk29_4, kk29_5, .int, 2, none⟩ :: ⟨bk29_6, kk29_7, .double, 2, none⟩ :: ⟨bk35_0, kn33, .double, 1, none⟩ :: ⟨bk35_1, kn31, .int, 1, none⟩ :: []) (FP.i2d (own_v0_0 p2)) (own_v8a_1 (FP.i2d (p0 &&& (1048575 : Int32))) (FP.i2d (own_v0_2 p4))) (FP.i2d (own_v0_1 p3)) (own_v8b_2 (FP.i2d (p1 &&& (1048575 : Int32))) (FP.i2d (own_v0_3 p4)) (FP.i2d (-(own_v0_4 p4))) (own_v8a_1 (FP.i2d (p0 &&& (1048575 : Int32))) (FP.i2d (own_v0_2 p4)))) Tk41.heap n0 (own_R_sz B44) B44 rfl rfl rfl rfl c290_nn30 c290_nn31 rfl rfl rfl c290_nn30_2 c290_nn31_2) hZ (own_W hw 120 rfl) (own_W hw 7 rfl) (by decide) (by decide)) qk43a qk43c (g := (mkF m 290 (own_L73 p0 p1 p2 p3 p4 p5 (p0 &&& (1048575 : Int32)) (p1 &&& (1048575 : Int32)) (own_v0_0 p2) (own_v0_1 p3) (own_v0_2 p4) (own_v0_3 p4) (own_v0_4 p4) (p4 >>> ((11 : Int32) &&& 31)) (own_v0_6 p5) tt (own_v0_10 p0 p1 p2 p3 p4) ((own_v0_0 p2).toInt64) (own_v0_7 p0 p4) (own_v0_9 p0 p1 p4)) [(.ref tt)])) rfl (by rw [hml]; rfl) (Steps.refl _) (argsL := []) (rest := []) (lenOf own_pd3 rfl) rfl (by show 2 * 0 + _ ≤ _; exact Nat.le_of_eq rfl) (hb hby at_290) (fun _ _ => ⟨rfl, rfl, (by decide : 63 + 0 ≤ _), (by decide : 391 + 0 ≤ _)⟩)
    dsimp only [Pt.U, Pt.locs, Pt.cells, Pt.slots] at Xk43 lk43 yk43 zk43 stk43 hQk43
    replace lk43 := lk43.symm; replace yk43 := yk43.symm; replace zk43 := zk43.symm; subst lk43 yk43 zk43
    obtain ⟨rfl, Nk43q, Bk43⟩ := hQk43
    have Nk43 := Fr.app Nk41 Nk43q
    obtain ⟨fs, hr, hrun, hended, hW, hsame⟩ := Xk43.leave (v := some (.int 1)) (fun h => by rw [Bd.returns] at h; cases h)
    refine ⟨_, _, pre0 _ (Ks1 _ (K23 _ (?_))), hrun, hended, _, _, rfl, ?_, ⟨_, rfl⟩, hW, hsame.mono (by decide) (by decide)⟩
    · show Steps p.tables e below (s₁.setTop (mkF m 65 (own_L46 p0 p1 p2 p3 p4 p5 (p0 &&& (1048575 : Int32)) (p1 &&& (1048575 : Int32)) (own_v0_0 p2) (own_v0_1 p3) (own_v0_2 p4) (own_v0_3 p4) (own_v0_4 p4)) [])) _
      refine XS.iload X0.here hx rfl (hb hby at_65) rfl ?_
      refine XS.bipush X0.here hx rfl (hb hby at_67) ?_
      refine XT.ishr X0.here hx rfl (hb hby at_69) rfl ?_
      refine XS.istore X0.here hx rfl (hb hby at_70) rfl (l' := (own_L47 p0 p1 p2 p3 p4 p5 (p0 &&& (1048575 : Int32)) (p1 &&& (1048575 : Int32)) (own_v0_0 p2) (own_v0_1 p3) (own_v0_2 p4) (own_v0_3 p4) (own_v0_4 p4) (p4 >>> ((11 : Int32) &&& 31)))) rfl ?_
      refine XS.iload X0.here hx rfl (hb hby at_72) rfl ?_
      refine XS.bipush X0.here hx rfl (hb hby at_74) ?_
      refine XT.ishl X0.here hx rfl (hb hby at_76) rfl ?_
      refine XS.bipush X0.here hx rfl (hb hby at_77) ?_
      refine XT.ishr X0.here hx rfl (hb hby at_79) rfl ?_
      refine XS.istore X0.here hx rfl (hb hby at_80) rfl (l' := (own_L48 p0 p1 p2 p3 p4 p5 (p0 &&& (1048575 : Int32)) (p1 &&& (1048575 : Int32)) (own_v0_0 p2) (own_v0_1 p3) (own_v0_2 p4) (own_v0_3 p4) (own_v0_4 p4) (p4 >>> ((11 : Int32) &&& 31)) (own_v0_6 p5))) rfl ?_
      refine XS.iload X0.here hx rfl (hb hby at_82) rfl ?_
      refine XS.iconst X0.here hx rfl (hb hby at_84) ?_
      refine stk24 _ ?_
      show Steps p.tables e below (Tk24.setTop (mkF m 88 (own_L48 p0 p1 p2 p3 p4 p5 (p0 &&& (1048575 : Int32)) (p1 &&& (1048575 : Int32)) (own_v0_0 p2) (own_v0_1 p3) (own_v0_2 p4) (own_v0_3 p4) (own_v0_4 p4) (p4 >>> ((11 : Int32) &&& 31)) (own_v0_6 p5)) [(.int 2)])) _
      refine XS.istore Xk24.here hx rfl (hb hby at_88) rfl (l' := (own_L49 p0 p1 p2 p3 p4 p5 (p0 &&& (1048575 : Int32)) (p1 &&& (1048575 : Int32)) (own_v0_0 p2) (own_v0_1 p3) (own_v0_2 p4) (own_v0_3 p4) (own_v0_4 p4) (p4 >>> ((11 : Int32) &&& 31)) (own_v0_6 p5))) rfl ?_
      refine XS.iload Xk24.here hx rfl (hb hby at_90) rfl ?_
      refine XS.iconst Xk24.here hx rfl (hb hby at_92) ?_
      refine XS.icmpYes Xk24.here hx rfl (pc0 := 93) (pc' := 100) rfl (hb hby at_93) rfl (XT.ii_ne_t (by decide : ¬ ((2 : Int32) = (3 : Int32)))) (by decide) (by decide) ?_
      refine XS.iconst Xk24.here hx rfl (hb hby at_100) ?_
      refine XS.istore Xk24.here hx rfl (hb hby at_101) rfl (l' := (own_L50 p0 p1 p2 p3 p4 p5 (p0 &&& (1048575 : Int32)) (p1 &&& (1048575 : Int32)) (own_v0_0 p2) (own_v0_1 p3) (own_v0_2 p4) (own_v0_3 p4) (own_v0_4 p4) (p4 >>> ((11 : Int32) &&& 31)) (own_v0_6 p5))) rfl ?_
      refine stn25 _ ?_
      show Steps p.tables e below (Tn25.setTop (mkF m 106 (own_L50 p0 p1 p2 p3 p4 p5 (p0 &&& (1048575 : Int32)) (p1 &&& (1048575 : Int32)) (own_v0_0 p2) (own_v0_1 p3) (own_v0_2 p4) (own_v0_3 p4) (own_v0_4 p4) (p4 >>> ((11 : Int32) &&& 31)) (own_v0_6 p5)) [(.ref tt)])) _
      refine XS.dup Xn25.here hx rfl (hb hby at_106) rfl rfl ?_
      refine stk26.trans ?_
      refine XS.astore Xk26.here hx rfl (hb hby at_110) rfl rfl (l' := (own_L51 p0 p1 p2 p3 p4 p5 (p0 &&& (1048575 : Int32)) (p1 &&& (1048575 : Int32)) (own_v0_0 p2) (own_v0_1 p3) (own_v0_2 p4) (own_v0_3 p4) (own_v0_4 p4) (p4 >>> ((11 : Int32) &&& 31)) (own_v0_6 p5) tt)) rfl ?_
      refine XT.lconst Xk26.here hx rfl (hb hby at_112) ?_
      refine XT.lstore Xk26.here hx rfl (hb hby at_113) rfl (l' := (own_L52 p0 p1 p2 p3 p4 p5 (p0 &&& (1048575 : Int32)) (p1 &&& (1048575 : Int32)) (own_v0_0 p2) (own_v0_1 p3) (own_v0_2 p4) (own_v0_3 p4) (own_v0_4 p4) (p4 >>> ((11 : Int32) &&& 31)) (own_v0_6 p5) tt)) rfl ?_
      refine XS.iload Xk26.here hx rfl (hb hby at_115) rfl ?_
      refine XS.iconst Xk26.here hx rfl (hb hby at_117) ?_
      refine XS.icmpNo Xk26.here hx rfl (hb hby at_118) rfl (XT.ii_lt_f (by decide : ¬ ((2 : Int32) < (1 : Int32)))) ?_
      refine XS.aload Xk26.here hx rfl (hb hby at_121) rfl rfl ?_
      refine XS.iload Xk26.here hx rfl (hb hby at_123) rfl ?_
      refine XS.i2dS Xk26.here hx rfl (hb hby at_125) rfl rfl ?_
      refine XS.iconst Xk26.here hx rfl (hb hby at_126) ?_
      refine stn27 _ ?_
      show Steps p.tables e below (Tn27.setTop (mkF m 129 (own_L52 p0 p1 p2 p3 p4 p5 (p0 &&& (1048575 : Int32)) (p1 &&& (1048575 : Int32)) (own_v0_0 p2) (own_v0_1 p3) (own_v0_2 p4) (own_v0_3 p4) (own_v0_4 p4) (p4 >>> ((11 : Int32) &&& 31)) (own_v0_6 p5) tt) [(.ref bn27), (.double (FP.i2d (p0 &&& (1048575 : Int32)))), (.ref tt)])) _
      refine XS.iconst Xn27.here hx rfl (hb hby at_129) ?_
      refine stn28 _ ?_
      refine XS.iload Xn28.here hx rfl (hb hby at_132) rfl ?_
      refine XS.i2dS Xn28.here hx rfl (hb hby at_134) rfl rfl ?_
      refine XS.iload Xn28.here hx rfl (hb hby at_135) rfl ?_
      refine XS.i2dS Xn28.here hx rfl (hb hby at_137) rfl rfl ?_
      refine stk29.trans ?_
      show Steps p.tables e below (Tk29.setTop (mkF m 141 (own_L52 p0 p1 p2 p3 p4 p5 (p0 &&& (1048575 : Int32)) (p1 &&& (1048575 : Int32)) (own_v0_0 p2) (own_v0_1 p3) (own_v0_2 p4) (own_v0_3 p4) (own_v0_4 p4) (p4 >>> ((11 : Int32) &&& 31)) (own_v0_6 p5) tt) [(.int 0)])) _
      refine XS.istore Xk29.here hx rfl (hb hby at_141) rfl (l' := (own_L53 p0 p1 p2 p3 p4 p5 (p0 &&& (1048575 : Int32)) (p1 &&& (1048575 : Int32)) (own_v0_0 p2) (own_v0_1 p3) (own_v0_2 p4) (own_v0_3 p4) (own_v0_4 p4) (p4 >>> ((11 : Int32) &&& 31)) (own_v0_6 p5) tt)) rfl ?_
      refine XS.aload Xk29.here hx rfl (hb hby at_143) rfl rfl ?_
      refine XS.iconst Xk29.here hx rfl (hb hby at_145) ?_
      refine stn31 _ ?_
      show Steps p.tables e below (Tn31.setTop (mkF m 148 (own_L53 p0 p1 p2 p3 p4 p5 (p0 &&& (1048575 : Int32)) (p1 &&& (1048575 : Int32)) (own_v0_0 p2) (own_v0_1 p3) (own_v0_2 p4) (own_v0_3 p4) (own_v0_4 p4) (p4 >>> ((11 : Int32) &&& 31)) (own_v0_6 p5) tt) [(.ref bn31), (.ref tt)])) _
      refine XS.dup Xn31.here hx rfl (hb hby at_148) rfl rfl ?_
      refine XS.iconst Xn31.here hx rfl (hb hby at_149) ?_
      refine XS.iconst Xn31.here hx rfl (hb hby at_150) ?_
      refine stn32 _ ?_
      show Steps p.tables e below (Tn32.setTop (mkF m 152 (own_L53 p0 p1 p2 p3 p4 p5 (p0 &&& (1048575 : Int32)) (p1 &&& (1048575 : Int32)) (own_v0_0 p2) (own_v0_1 p3) (own_v0_2 p4) (own_v0_3 p4) (own_v0_4 p4) (p4 >>> ((11 : Int32) &&& 31)) (own_v0_6 p5) tt) [(.ref bn31), (.ref tt)])) _
      refine XS.iconst Xn32.here hx rfl (hb hby at_152) ?_
      refine stn33 _ ?_
      refine XS.dup Xn33.here hx rfl (hb hby at_155) rfl rfl ?_
      refine XS.iconst Xn33.here hx rfl (hb hby at_156) ?_
      refine XS.dconst1 Xn33.here hx rfl (hb hby at_157) (v := (4607182418800017408 : UInt64)) (by decide +kernel) ?_
      show Steps p.tables e below (Tn33.setTop (mkF m 158 (own_L53 p0 p1 p2 p3 p4 p5 (p0 &&& (1048575 : Int32)) (p1 &&& (1048575 : Int32)) (own_v0_0 p2) (own_v0_1 p3) (own_v0_2 p4) (own_v0_3 p4) (own_v0_4 p4) (p4 >>> ((11 : Int32) &&& 31)) (own_v0_6 p5) tt) [(.double 4607182418800017408), (.int 0), (.ref bn33), (.ref bn33), (.ref bn31), (.ref tt)])) _
      refine stn34 _ ?_
      refine XS.iload Xn34.here hx rfl (hb hby at_159) rfl ?_
      refine XS.i2dS Xn34.here hx rfl (hb hby at_161) rfl rfl ?_
      refine stk35.trans ?_
      show Steps p.tables e below (Tk35.setTop (mkF m 165 (own_L53 p0 p1 p2 p3 p4 p5 (p0 &&& (1048575 : Int32)) (p1 &&& (1048575 : Int32)) (own_v0_0 p2) (own_v0_1 p3) (own_v0_2 p4) (own_v0_3 p4) (own_v0_4 p4) (p4 >>> ((11 : Int32) &&& 31)) (own_v0_6 p5) tt) [(.int 1)])) _
      refine XT.pop Xk35.here hx rfl (hb hby at_165) rfl rfl ?_
      refine XS.iload Xk35.here hx rfl (hb hby at_166) rfl ?_
      refine XT.i2l Xk35.here hx rfl (hb hby at_168) rfl ?_
      refine XT.lstore Xk35.here hx rfl (hb hby at_169) rfl (l' := (own_L54 p0 p1 p2 p3 p4 p5 (p0 &&& (1048575 : Int32)) (p1 &&& (1048575 : Int32)) (own_v0_0 p2) (own_v0_1 p3) (own_v0_2 p4) (own_v0_3 p4) (own_v0_4 p4) (p4 >>> ((11 : Int32) &&& 31)) (own_v0_6 p5) tt ((own_v0_0 p2).toInt64))) rfl ?_
      refine XS.iload Xk35.here hx rfl (hb hby at_171) rfl ?_
      refine XS.ifYes Xk35.here hx rfl (pc0 := 173) (pc' := 191) rfl (hb hby at_173) rfl (XT.i0_eq_t (by decide : (0 : Int32) = (0 : Int32))) (by decide) (by decide) ?_
      refine XS.iload Xk35.here hx rfl (hb hby at_191) rfl ?_
      refine XT.i2l Xk35.here hx rfl (hb hby at_193) rfl ?_
      refine XS.bipush Xk35.here hx rfl (hb hby at_194) ?_
      refine XS.iload Xk35.here hx rfl (hb hby at_196) rfl ?_
      refine XS.idiv Xk35.here hx rfl (hb hby at_198) rfl hz198 ?_
      refine XT.i2l Xk35.here hx rfl (hb hby at_199) rfl ?_
      refine XT.lmul Xk35.here hx rfl (hb hby at_200) rfl ?_
      refine XT.lstore Xk35.here hx rfl (hb hby at_201) rfl (l' := (own_L55 p0 p1 p2 p3 p4 p5 (p0 &&& (1048575 : Int32)) (p1 &&& (1048575 : Int32)) (own_v0_0 p2) (own_v0_1 p3) (own_v0_2 p4) (own_v0_3 p4) (own_v0_4 p4) (p4 >>> ((11 : Int32) &&& 31)) (own_v0_6 p5) tt ((own_v0_0 p2).toInt64) (own_v0_7 p0 p4))) rfl ?_
      refine XT.lload Xk35.here hx rfl (hb hby at_203) rfl ?_
      refine XT.lload Xk35.here hx rfl (hb hby at_205) rfl ?_
      refine XT.lmul Xk35.here hx rfl (hb hby at_207) rfl ?_
      refine XT.lstore Xk35.here hx rfl (hb hby at_208) rfl (l' := (own_L56 p0 p1 p2 p3 p4 p5 (p0 &&& (1048575 : Int32)) (p1 &&& (1048575 : Int32)) (own_v0_0 p2) (own_v0_1 p3) (own_v0_2 p4) (own_v0_3 p4) (own_v0_4 p4) (p4 >>> ((11 : Int32) &&& 31)) (own_v0_6 p5) tt (own_v0_8 p0 p2 p4) ((own_v0_0 p2).toInt64) (own_v0_7 p0 p4))) rfl ?_
      refine XS.iload Xk35.here hx rfl (hb hby at_210) rfl ?_
      refine XS.iconst Xk35.here hx rfl (hb hby at_212) ?_
      refine XS.icmpNo Xk35.here hx rfl (hb hby at_213) rfl (XT.ii_lt_f (by decide : ¬ ((2 : Int32) < (2 : Int32)))) ?_
      refine XS.aload Xk35.here hx rfl (hb hby at_216) rfl rfl ?_
      refine XS.iload Xk35.here hx rfl (hb hby at_218) rfl ?_
      refine XS.i2dS Xk35.here hx rfl (hb hby at_220) rfl rfl ?_
      refine XS.iconst Xk35.here hx rfl (hb hby at_221) ?_
      refine stn37 _ ?_
      show Steps p.tables e below (Tn37.setTop (mkF m 224 (own_L56 p0 p1 p2 p3 p4 p5 (p0 &&& (1048575 : Int32)) (p1 &&& (1048575 : Int32)) (own_v0_0 p2) (own_v0_1 p3) (own_v0_2 p4) (own_v0_3 p4) (own_v0_4 p4) (p4 >>> ((11 : Int32) &&& 31)) (own_v0_6 p5) tt (own_v0_8 p0 p2 p4) ((own_v0_0 p2).toInt64) (own_v0_7 p0 p4)) [(.ref bn37), (.double (FP.i2d (p1 &&& (1048575 : Int32)))), (.ref tt)])) _
      refine XS.dup Xn37.here hx rfl (hb hby at_224) rfl rfl ?_
      refine XS.iconst Xn37.here hx rfl (hb hby at_225) ?_
      refine XS.iload Xn37.here hx rfl (hb hby at_226) rfl ?_
      refine stn38 _ ?_
      show Steps p.tables e below (Tn38.setTop (mkF m 229 (own_L56 p0 p1 p2 p3 p4 p5 (p0 &&& (1048575 : Int32)) (p1 &&& (1048575 : Int32)) (own_v0_0 p2) (own_v0_1 p3) (own_v0_2 p4) (own_v0_3 p4) (own_v0_4 p4) (p4 >>> ((11 : Int32) &&& 31)) (own_v0_6 p5) tt (own_v0_8 p0 p2 p4) ((own_v0_0 p2).toInt64) (own_v0_7 p0 p4)) [(.ref bn37), (.double (FP.i2d (p1 &&& (1048575 : Int32)))), (.ref tt)])) _
      refine XS.iconst Xn38.here hx rfl (hb hby at_229) ?_
      refine stn39 _ ?_
      refine XS.dup Xn39.here hx rfl (hb hby at_232) rfl rfl ?_
      refine XS.iconst Xn39.here hx rfl (hb hby at_233) ?_
      refine XS.iload Xn39.here hx rfl (hb hby at_234) rfl ?_
      refine XS.ineg Xn39.here hx rfl (hb hby at_236) rfl ?_
      show Steps p.tables e below (Tn39.setTop (mkF m 237 (own_L56 p0 p1 p2 p3 p4 p5 (p0 &&& (1048575 : Int32)) (p1 &&& (1048575 : Int32)) (own_v0_0 p2) (own_v0_1 p3) (own_v0_2 p4) (own_v0_3 p4) (own_v0_4 p4) (p4 >>> ((11 : Int32) &&& 31)) (own_v0_6 p5) tt (own_v0_8 p0 p2 p4) ((own_v0_0 p2).toInt64) (own_v0_7 p0 p4)) [(.int (-(own_v0_4 p4))), (.int 0), (.ref bn39), (.ref bn39), (.ref bn37), (.double (FP.i2d (p1 &&& (1048575 : Int32)))), (.ref tt)])) _
      refine XS.i2dS Xn39.here hx rfl (hb hby at_237) rfl rfl ?_
      refine stn40 _ ?_
      refine XS.iload Xn40.here hx rfl (hb hby at_239) rfl ?_
      refine XS.i2dS Xn40.here hx rfl (hb hby at_241) rfl rfl ?_
      refine XS.iload Xn40.here hx rfl (hb hby at_242) rfl ?_
      refine XS.i2dS Xn40.here hx rfl (hb hby at_244) rfl rfl ?_
      refine stk41.trans ?_
      show Steps p.tables e below (Tk41.setTop (mkF m 248 (own_L56 p0 p1 p2 p3 p4 p5 (p0 &&& (1048575 : Int32)) (p1 &&& (1048575 : Int32)) (own_v0_0 p2) (own_v0_1 p3) (own_v0_2 p4) (own_v0_3 p4) (own_v0_4 p4) (p4 >>> ((11 : Int32) &&& 31)) (own_v0_6 p5) tt (own_v0_8 p0 p2 p4) ((own_v0_0 p2).toInt64) (own_v0_7 p0 p4)) [(.int 2)])) _
      refine XT.pop Xk41.here hx rfl (hb hby at_248) rfl rfl ?_
      refine XS.iload Xk41.here hx rfl (hb hby at_249) rfl ?_
      refine XT.i2l Xk41.here hx rfl (hb hby at_251) rfl ?_
      refine Xk41.ldc2Long hx hown (mvT hZ (own_W hw 188 rfl)) (g := (mkF m 252 (own_L56 p0 p1 p2 p3 p4 p5 (p0 &&& (1048575 : Int32)) (p1 &&& (1048575 : Int32)) (own_v0_0 p2) (own_v0_1 p3) (own_v0_2 p4) (own_v0_3 p4) (own_v0_4 p4) (p4 >>> ((11 : Int32) &&& 31)) (own_v0_6 p5) tt (own_v0_8 p0 p2 p4) ((own_v0_0 p2).toInt64) (own_v0_7 p0 p4)) [(.long (p1 &&& (1048575 : Int32)).toInt64)])) rfl (hb hby at_252) _ ?_
      show Steps p.tables e below (Tk41.setTop (mkF m 255 (own_L56 p0 p1 p2 p3 p4 p5 (p0 &&& (1048575 : Int32)) (p1 &&& (1048575 : Int32)) (own_v0_0 p2) (own_v0_1 p3) (own_v0_2 p4) (own_v0_3 p4) (own_v0_4 p4) (p4 >>> ((11 : Int32) &&& 31)) (own_v0_6 p5) tt (own_v0_8 p0 p2 p4) ((own_v0_0 p2).toInt64) (own_v0_7 p0 p4)) [(.long 64), (.long (p1 &&& (1048575 : Int32)).toInt64)])) _
      refine XT.lmul Xk41.here hx rfl (hb hby at_255) rfl ?_
      refine XS.iload Xk41.here hx rfl (hb hby at_256) rfl ?_
      refine XT.i2l Xk41.here hx rfl (hb hby at_258) rfl ?_
      refine XS.iload Xk41.here hx rfl (hb hby at_259) rfl ?_
      refine XT.i2l Xk41.here hx rfl (hb hby at_261) rfl ?_
      refine XT.lmul Xk41.here hx rfl (hb hby at_262) rfl ?_
      refine XS.bipush Xk41.here hx rfl (hb hby at_263) ?_
      refine XS.iload Xk41.here hx rfl (hb hby at_265) rfl ?_
      refine XS.idiv Xk41.here hx rfl (hb hby at_267) rfl hz198 ?_
      refine XT.i2l Xk41.here hx rfl (hb hby at_268) rfl ?_
      refine XT.lmul Xk41.here hx rfl (hb hby at_269) rfl ?_
      refine XT.ladd Xk41.here hx rfl (hb hby at_270) rfl ?_
      refine XS.iload Xk41.here hx rfl (hb hby at_271) rfl ?_
      refine XT.i2l Xk41.here hx rfl (hb hby at_273) rfl ?_
      refine XT.ldiv Xk41.here hx rfl (hb hby at_274) rfl hz274 ?_
      refine XT.lstore Xk41.here hx rfl (hb hby at_275) rfl (l' := (own_L73 p0 p1 p2 p3 p4 p5 (p0 &&& (1048575 : Int32)) (p1 &&& (1048575 : Int32)) (own_v0_0 p2) (own_v0_1 p3) (own_v0_2 p4) (own_v0_3 p4) (own_v0_4 p4) (p4 >>> ((11 : Int32) &&& 31)) (own_v0_6 p5) tt (own_v0_8 p0 p2 p4) ((own_v0_0 p2).toInt64) (own_v0_7 p0 p4) (own_v0_9 p0 p1 p4))) rfl ?_
      refine XT.lload Xk41.here hx rfl (hb hby at_277) rfl ?_
      refine XS.iload Xk41.here hx rfl (hb hby at_279) rfl ?_
      refine XT.i2l Xk41.here hx rfl (hb hby at_281) rfl ?_
      refine XT.lload Xk41.here hx rfl (hb hby at_282) rfl ?_
      refine XT.lmul Xk41.here hx rfl (hb hby at_284) rfl ?_
      refine XT.ladd Xk41.here hx rfl (hb hby at_285) rfl ?_
      refine XT.lstore Xk41.here hx rfl (hb hby at_286) rfl (l' := (own_L73 p0 p1 p2 p3 p4 p5 (p0 &&& (1048575 : Int32)) (p1 &&& (1048575 : Int32)) (own_v0_0 p2) (own_v0_1 p3) (own_v0_2 p4) (own_v0_3 p4) (own_v0_4 p4) (p4 >>> ((11 : Int32) &&& 31)) (own_v0_6 p5) tt (own_v0_10 p0 p1 p2 p3 p4) ((own_v0_0 p2).toInt64) (own_v0_7 p0 p4) (own_v0_9 p0 p1 p4))) rfl ?_
      refine XS.aload Xk41.here hx rfl (hb hby at_288) rfl rfl ?_
      refine stk43.trans ?_
      show Steps p.tables e below (Tk43.setTop (mkF m 293 (own_L73 p0 p1 p2 p3 p4 p5 (p0 &&& (1048575 : Int32)) (p1 &&& (1048575 : Int32)) (own_v0_0 p2) (own_v0_1 p3) (own_v0_2 p4) (own_v0_3 p4) (own_v0_4 p4) (p4 >>> ((11 : Int32) &&& 31)) (own_v0_6 p5) tt (own_v0_10 p0 p1 p2 p3 p4) ((own_v0_0 p2).toInt64) (own_v0_7 p0 p4) (own_v0_9 p0 p1 p4)) [(.double (own_r7c_2 (FP.i2d (own_v0_0 p2)) (own_v8a_1 (FP.i2d (p0 &&& (1048575 : Int32))) (FP.i2d (own_v0_2 p4))) (FP.i2d (own_v0_1 p3)) (own_v8b_2 (FP.i2d (p1 &&& (1048575 : Int32))) (FP.i2d (own_v0_3 p4)) (FP.i2d (-(own_v0_4 p4))) (own_v8a_1 (FP.i2d (p0 &&& (1048575 : Int32))) (FP.i2d (own_v0_2 p4))))))])) _
      refine Xk43.ldc2DoubleC hx hown (mvT hZ (own_W hw 123 rfl)) (g := (mkF m 293 (own_L73 p0 p1 p2 p3 p4 p5 (p0 &&& (1048575 : Int32)) (p1 &&& (1048575 : Int32)) (own_v0_0 p2) (own_v0_1 p3) (own_v0_2 p4) (own_v0_3 p4) (own_v0_4 p4) (p4 >>> ((11 : Int32) &&& 31)) (own_v0_6 p5) tt (own_v0_10 p0 p1 p2 p3 p4) ((own_v0_0 p2).toInt64) (own_v0_7 p0 p4) (own_v0_9 p0 p1 p4)) [(.double (own_r7c_2 (FP.i2d (own_v0_0 p2)) (own_v8a_1 (FP.i2d (p0 &&& (1048575 : Int32))) (FP.i2d (own_v0_2 p4))) (FP.i2d (own_v0_1 p3)) (own_v8b_2 (FP.i2d (p1 &&& (1048575 : Int32))) (FP.i2d (own_v0_3 p4)) (FP.i2d (-(own_v0_4 p4))) (own_v8a_1 (FP.i2d (p0 &&& (1048575 : Int32))) (FP.i2d (own_v0_2 p4))))))])) rfl (hb hby at_293) _ ?_
      refine XS.dmulS Xk43.here hx rfl (hb hby at_296) rfl nn296_3 rfl ?_
      refine XT.lload Xk43.here hx rfl (hb hby at_297) rfl ?_
      refine XS.l2dS Xk43.here hx rfl (hb hby at_299) rfl rfl ?_
      refine XS.dcmpS Xk43.here hx rfl (hb hby at_300) rfl rfl ?_
      refine XS.ifNo Xk43.here hx rfl (hb hby at_301) rfl (XT.i0_ne_f hc301_3) ?_
      refine XS.iconst Xk43.here hx rfl (hb hby at_304) ?_
      refine XS.goto Xk43.here hx rfl (pc0 := 305) (pc' := 309) rfl (hb hby at_305) (by decide) (by decide) ?_
      show Steps p.tables e below (Tk43.setTop (mkF m 309 (own_L73 p0 p1 p2 p3 p4 p5 (p0 &&& (1048575 : Int32)) (p1 &&& (1048575 : Int32)) (own_v0_0 p2) (own_v0_1 p3) (own_v0_2 p4) (own_v0_3 p4) (own_v0_4 p4) (p4 >>> ((11 : Int32) &&& 31)) (own_v0_6 p5) tt (own_v0_10 p0 p1 p2 p3 p4) ((own_v0_0 p2).toInt64) (own_v0_7 p0 p4) (own_v0_9 p0 p1 p4)) [(.int 1)])) _
      exact retN Xk43 hx (t := .boolean) Bd.returns (by simp) (hb hby at_309) hr
    · show own_Q0 Z p0 p1 p2 p3 p4 p5 h0 n0 _ Tk43.heap _
      exact ⟨rfl, Nk43⟩
  · have K45 : ∀ t, Steps p.tables e below (s₁.setTop (mkF m 65 (own_L75 p0 p1 p2 p3 p4 p5 (p0 &&& (1048575 : Int32)) (p1 &&& (1048575 : Int32)) (own_v0_0 p2) (own_v0_1 p3) (own_v0_2 p4) (own_v0_3 p4) (own_v0_4 p4)) [])) t → Steps p.tables e below (s₁.setTop (mkF m 65 (own_L8 p0 p1 p2 p3 p4 p5 (p0 &&& (1048575 : Int32)) (p1 &&& (1048575 : Int32)) (own_v0_0 p2) (own_v0_1 p3) (own_v0_2 p4) (own_v0_3 p4) (own_v0_4 p4) (own_v0_5 p4)) [])) t := by intro t kt; rw [hs1]; exact kt
    obtain ⟨_, _, ⟨Tk46, Lk46, kk46, nk46⟩, -, Xk46, ⟨Lck46, hQk46, lk46, yk46, zk46⟩, stk46⟩ := Jvm.LawKit.callS X0 hx (y := (⟨"java/lang/Math", "min", "(II)I"⟩ : MethodName)) hown (mvT hZ (own_W hw 1 rfl)) (mvT hZ (own_W hw 2 rfl)) (mvT hZ (own_W hw 3 rfl)) (mvT hZ (own_W hw 4 rfl)) (by decide) (backOf (W := 0) (own_rm1_3_2 l Z a0 hw []  h0 n0 Z0) hZ (own_W hw 4 rfl) (own_W hw 3 rfl) (by decide) (by decide)) (g := (mkF m 85 (own_L77 p0 p1 p2 p3 p4 p5 (p0 &&& (1048575 : Int32)) (p1 &&& (1048575 : Int32)) (own_v0_0 p2) (own_v0_1 p3) (own_v0_2 p4) (own_v0_3 p4) (own_v0_4 p4) (p4 >>> ((11 : Int32) &&& 31)) (own_v0_6 p5)) [(.int 2), (.int 3)])) rfl (by rw [hml]; rfl) (argsL := [(.int 3), (.int 2)]) (rest := []) (lenOf own_pd2 rfl) rfl (by show 2 * 0 + _ ≤ _; exact Nat.le_of_eq rfl) (hb hby at_85) (fun _ _ => ⟨rfl, e0, (by decide : 0 + 0 ≤ _), (by decide : 0 + 0 ≤ _)⟩)
    dsimp only [Pt.U, Pt.locs, Pt.cells, Pt.slots] at Xk46 lk46 yk46 zk46 stk46 hQk46
    replace lk46 := lk46.symm; replace yk46 := yk46.symm; replace zk46 := zk46.symm; subst lk46 yk46 zk46
    obtain ⟨rfl, Nk46q, ek46⟩ := hQk46
    have Nk46 := Fr.app N0 Nk46q
    obtain ⟨Tn47, hn47, Xn47, en47, En47, An47, Dn47, -, stn47⟩ := newO Xk46 hx hZ hown (own_W hw 5 rfl) (own_W hw 6 rfl) (own_W hw 7 rfl) ek46 (g := (mkF m 103 (own_L79 p0 p1 p2 p3 p4 p5 (p0 &&& (1048575 : Int32)) (p1 &&& (1048575 : Int32)) (own_v0_0 p2) (own_v0_1 p3) (own_v0_2 p4) (own_v0_3 p4) (own_v0_4 p4) (p4 >>> ((11 : Int32) &&& 31)) (own_v0_6 p5)) [])) rfl (hb hby at_103) (by decide) (by decide)
    obtain ⟨tt, gn47⟩ : ∃ z, z = h0.size := ⟨_, rfl⟩
    rw [← gn47] at An47 Dn47 stn47
    have Bn47 := own_R_new An47 (n0 := n0) (by rw [gn47]; exact Z0) (fun i hi => by
      match i, hi with
      | 0, _ => exact Dn47 (Or.inl (own_W hw 17 rfl)) (ty := (.array (.array .int))) (by decide)
      | 1, _ => exact Dn47 (Or.inl (own_W hw 21 rfl)) (ty := (.array (.array .double))) (by decide)
      | 2, _ => exact Dn47 (Or.inl (own_W hw 24 rfl)) (ty := (.array .double)) (by decide)
      | 3, _ => exact Dn47 (Or.inl (own_W hw 27 rfl)) (ty := (.array .int)) (by decide)
      | 4, _ => exact Dn47 (Or.inl (own_W hw 29 rfl)) (ty := (.array .double)) (by decide)
      | 5, _ => exact Dn47 (Or.inl (own_W hw 31 rfl)) (ty := (.array .double)) (by decide)
      | 6, _ => exact Dn47 (Or.inl (own_W hw 33 rfl)) (ty := (.array (.array .int))) (by decide)
      | 7, _ => exact Dn47 (Or.inl (own_W hw 35 rfl)) (ty := (.array (.array .double))) (by decide)
      | 8, _ => exact Dn47 (Or.inl (own_W hw 37 rfl)) (ty := (.array .int)) (by decide)
      | 9, _ => exact Dn47 (Or.inl (own_W hw 39 rfl)) (ty := (.array .int)) (by decide)
      | 10, _ => exact Dn47 (Or.inl (own_W hw 42 rfl)) (ty := (.array .boolean)) (by decide)
      | 11, _ => exact Dn47 (Or.inl (own_W hw 46 rfl)) (ty := (.array .double)) (by decide)
      | 12, _ => exact Dn47 (Or.inl (own_W hw 48 rfl)) (ty := (.array .int)) (by decide)
      | 13, _ => exact Dn47 (Or.inl (own_W hw 50 rfl)) (ty := (.array .double)) (by decide)
      | 14, _ => exact Dn47 (Or.inl (own_W hw 52 rfl)) (ty := (.array .double)) (by decide)
      | 15, _ => exact Dn47 (Or.inl (own_W hw 143 rfl)) (ty := .int) (by decide)
      | 16, _ => exact Dn47 (Or.inl (own_W hw 190 rfl)) (ty := .int) (by decide)
      | 17, _ => exact Dn47 (Or.inl (own_W hw 122 rfl)) (ty := .int) (by decide)
      | 18, _ => exact Dn47 (Or.inl (own_W hw 44 rfl)) (ty := .int) (by decide)
      | 19, _ => exact Dn47 (Or.inl (own_W hw 136 rfl)) (ty := .boolean) (by decide)
      | 20, _ => exact Dn47 (Or.inl (own_W hw 115 rfl)) (ty := .boolean) (by decide)
      | 21, _ => exact Dn47 (Or.inr (own_W hw 113 rfl)) (ty := (.object "com/example/placewright/placewright/solver/BasisFactorization")) (by decide)
      | k + 22, hk => omega)
    obtain ⟨_, _, ⟨Tk48, Lk48, kk48, nk48⟩, -, Xk48, ⟨Lck48, hQk48, lk48, yk48, zk48⟩, stk48⟩ := Xn47.specialBack hx (y := (⟨"com/example/placewright/placewright/solver/RevisedSimplex", "<init>", "()V"⟩ : MethodName)) rfl hown (mvT hZ (own_W hw 8 rfl)) (mvT hZ (own_W hw 9 rfl)) (mvT hZ (own_W hw 10 rfl)) (by decide) (backOf (W := 1) (own_rm2a l Z a0 hw [] tt _ _ _ _ hn47 n0 (own_R_sz Bn47) Bn47 rfl rfl rfl rfl) hZ (own_W hw 10 rfl) (own_W hw 7 rfl) (by decide) (by decide)) (g := (mkF m 107 (own_L79 p0 p1 p2 p3 p4 p5 (p0 &&& (1048575 : Int32)) (p1 &&& (1048575 : Int32)) (own_v0_0 p2) (own_v0_1 p3) (own_v0_2 p4) (own_v0_3 p4) (own_v0_4 p4) (p4 >>> ((11 : Int32) &&& 31)) (own_v0_6 p5)) [(.ref tt), (.ref tt)])) rfl (by rw [hml]; rfl) (Steps.refl _) (a := tt) (argsL := []) (rest := [(.ref tt)]) (lenOf own_pd0 rfl) rfl (by show 2 * 0 + _ ≤ _; exact Nat.le_of_eq rfl) (hb hby at_107) (fun _ _ => ⟨rfl, en47, (by decide : 1 + 40 ≤ _), (by decide : 26 + 339 ≤ _)⟩)
    dsimp only [Pt.U, Pt.locs, Pt.cells, Pt.slots] at Xk48 lk48 yk48 zk48 stk48 hQk48
    replace lk48 := lk48.symm; replace yk48 := yk48.symm; replace zk48 := zk48.symm; subst lk48 yk48 zk48
    obtain ⟨aA, aK, aF, aV, rfl, Nk48q, Bk48, f0_k48, f1_k48, f2_k48, f3_k48, v15_k48, v16_k48, v17_k48, v18_k48, v19_k48⟩ := hQk48
    have Nk48 := Fr.app Nk46 Nk48q
    obtain ⟨Tn49, hn49, bn49, kn49, Xn49, en49, Bn49, stn49⟩ := own_na Xk48 hx hZ (own_W hw 25 rfl) rfl Bk48 .int rfl (fun _ => trivial) (by decide) (g := (mkF m 127 (own_L81 p0 p1 p2 p3 p4 p5 (p0 &&& (1048575 : Int32)) (p1 &&& (1048575 : Int32)) (own_v0_0 p2) (own_v0_1 p3) (own_v0_2 p4) (own_v0_3 p4) (own_v0_4 p4) (p4 >>> ((11 : Int32) &&& 31)) (own_v0_6 p5) tt) [(.int 0), (.double (FP.i2d (p0 &&& (1048575 : Int32)))), (.ref tt)])) rfl (hb hby at_127) rfl (by decide) (cap := 0) (by decide) (by decide) (by decide) (by decide)
    obtain ⟨Tn50, hn50, bn50, kn50, Xn50, en50, Bn50, stn50⟩ := own_na Xn49 hx hZ (own_W hw 22 rfl) en49 Bn49 .double rfl (fun _ => trivial) (by decide) (g := (mkF m 130 (own_L81 p0 p1 p2 p3 p4 p5 (p0 &&& (1048575 : Int32)) (p1 &&& (1048575 : Int32)) (own_v0_0 p2) (own_v0_1 p3) (own_v0_2 p4) (own_v0_3 p4) (own_v0_4 p4) (p4 >>> ((11 : Int32) &&& 31)) (own_v0_6 p5) tt) [(.int 0), (.ref bn49), (.double (FP.i2d (p0 &&& (1048575 : Int32)))), (.ref tt)])) rfl (hb hby at_130) rfl (by decide) (cap := 0) (by decide) (by decide) (by decide) (by decide)
    have B52 : own_R 15 Z n0 hn50 tt aA aK _ _ (⟨bn49, kn49, .int, 0, some (own_all (.int 0))⟩ :: ⟨bn50, kn50, .double, 0, some (own_all (.double 0))⟩ :: []) := own_R_pick Bn50 2 [1, 0] trivial (by decide) (by decide)
    obtain ⟨cqk51, kqk51, qk51a, qk51b, qk51c⟩ := isOf hZ en50 (own_R_exa B52)
    obtain ⟨_, _, ⟨Tk51, Lk51, kk51, nk51⟩, -, Xk51, ⟨Lck51, hQk51, lk51, yk51, zk51⟩, stk51⟩ := Xn50.virtualBack hx (y := (⟨"com/example/placewright/placewright/solver/RevisedSimplex", "addRow", "(D[I[DDD)I"⟩ : MethodName)) (z := (⟨"com/example/placewright/placewright/solver/RevisedSimplex", "addRow", "(D[I[DDD)I"⟩ : MethodName)) hown (mvT hZ (own_W hw 124 rfl)) (mvT hZ (own_W hw 125 rfl)) (notFace_of_selects (args := #[]) (mvT hZ (own_W hw 127 rfl))) (mvT hZ (own_W hw 127 rfl)) (mvT hZ (own_W hw 126 rfl)) (by decide) (backOf (W := 0) (own_rm8a l Z a0 hw [] tt aA aK _ _ ([]) (FP.i2d (p0 &&& (1048575 : Int32))) _ bn49 kn49 _ bn50 kn50 (FP.i2d (own_v0_2 p4)) (FP.i2d (own_v0_0 p2)) hn50 n0 (own_R_sz B52) B52 v17_k48 v18_k48 c138_nn249 c138_nn252 c138_hc261 v15_k48 f0_k48 c138_c318_c252_c11_hc19 c138_nx349 c138_ny349) hZ (own_W hw 128 rfl) (own_W hw 7 rfl) (by decide) (by decide)) qk51a qk51c (g := (mkF m 138 (own_L81 p0 p1 p2 p3 p4 p5 (p0 &&& (1048575 : Int32)) (p1 &&& (1048575 : Int32)) (own_v0_0 p2) (own_v0_1 p3) (own_v0_2 p4) (own_v0_3 p4) (own_v0_4 p4) (p4 >>> ((11 : Int32) &&& 31)) (own_v0_6 p5) tt) [(.double (FP.i2d (own_v0_0 p2))), (.double (FP.i2d (own_v0_2 p4))), (.ref bn50), (.ref bn49), (.double (FP.i2d (p0 &&& (1048575 : Int32)))), (.ref tt)])) rfl (by rw [hml]; rfl) (Steps.refl _) (argsL := [(.double (FP.i2d (p0 &&& (1048575 : Int32)))), (.ref bn49), (.ref bn50), (.double (FP.i2d (own_v0_2 p4))), (.double (FP.i2d (own_v0_0 p2)))]) (rest := []) (lenOf own_pd8 rfl) rfl (by show 2 * 0 + _ ≤ _; exact Nat.le_of_eq rfl) (hb hby at_138) (fun _ _ => ⟨rfl, en50, (by decide : 43 + 6 ≤ _), (by decide : 365 + 8 ≤ _)⟩)
    dsimp only [Pt.U, Pt.locs, Pt.cells, Pt.slots] at Xk51 lk51 yk51 zk51 stk51 hQk51
    replace lk51 := lk51.symm; replace yk51 := yk51.symm; replace zk51 := zk51.symm; subst lk51 yk51 zk51
    obtain ⟨bk51_0, kk51_1, bk51_2, kk51_3, bk51_4, kk51_5, bk51_6, kk51_7, rfl, Nk51q, Bk51⟩ := hQk51
    have Nk51 := Fr.app Nk48 Nk51q
    obtain ⟨Tn53, hn53, bn53, kn53, Xn53, en53, Bn53, stn53⟩ := own_na Xk51 hx hZ (own_W hw 25 rfl) rfl Bk51 .int rfl (fun _ => trivial) (by decide) (g := (mkF m 146 (own_L82 p0 p1 p2 p3 p4 p5 (p0 &&& (1048575 : Int32)) (p1 &&& (1048575 : Int32)) (own_v0_0 p2) (own_v0_1 p3) (own_v0_2 p4) (own_v0_3 p4) (own_v0_4 p4) (p4 >>> ((11 : Int32) &&& 31)) (own_v0_6 p5) tt) [(.int 1), (.ref tt)])) rfl (hb hby at_146) rfl (by decide) (cap := 1) (by decide) (by decide) (by decide) (by decide)
    obtain ⟨Tn54, hn54, Ln54, Xn54, en54, Bn54, Nn54, stn54⟩ := own_shI Xn53 hx hZ en53 Bn53 Nk51 0 (by decide) (g := (mkF m 151 (own_L82 p0 p1 p2 p3 p4 p5 (p0 &&& (1048575 : Int32)) (p1 &&& (1048575 : Int32)) (own_v0_0 p2) (own_v0_1 p3) (own_v0_2 p4) (own_v0_3 p4) (own_v0_4 p4) (p4 >>> ((11 : Int32) &&& 31)) (own_v0_6 p5) tt) [(.int 0), (.int 0), (.ref bn53), (.ref bn53), (.ref tt)])) rfl rfl (hb hby at_151)
    obtain ⟨Tn55, hn55, bn55, kn55, Xn55, en55, Bn55, stn55⟩ := own_na Xn54 hx hZ (own_W hw 22 rfl) en54 Bn54 .double rfl (fun _ => trivial) (by decide) (g := (mkF m 153 (own_L82 p0 p1 p2 p3 p4 p5 (p0 &&& (1048575 : Int32)) (p1 &&& (1048575 : Int32)) (own_v0_0 p2) (own_v0_1 p3) (own_v0_2 p4) (own_v0_3 p4) (own_v0_4 p4) (p4 >>> ((11 : Int32) &&& 31)) (own_v0_6 p5) tt) [(.int 1), (.ref bn53), (.ref tt)])) rfl (hb hby at_153) rfl (by decide) (cap := 1) (by decide) (by decide) (by decide) (by decide)
    obtain ⟨Tn56, hn56, Ln56, Xn56, en56, Bn56, Nn56, stn56⟩ := own_shD Xn55 hx hZ en55 Bn55 Nn54 0 (by decide) (g := (mkF m 158 (own_L82 p0 p1 p2 p3 p4 p5 (p0 &&& (1048575 : Int32)) (p1 &&& (1048575 : Int32)) (own_v0_0 p2) (own_v0_1 p3) (own_v0_2 p4) (own_v0_3 p4) (own_v0_4 p4) (p4 >>> ((11 : Int32) &&& 31)) (own_v0_6 p5) tt) [(.double 4607182418800017408), (.int 0), (.ref bn55), (.ref bn55), (.ref bn53), (.ref tt)])) rfl rfl (hb hby at_158)
    have B58 : own_R 15 Z n0 hn56 tt aA aK _ _ (⟨bn53, kn53, .int, 1, some (own_up (own_all (.int 0)) 0 (.int 0))⟩ :: ⟨bn55, kn55, .double, 1, some (own_up (own_all (.double 0)) 0 (.double 4607182418800017408))⟩ :: ⟨bk51_4, kk51_5, .int, 2, none⟩ :: ⟨bk51_6, kk51_7, .double, 2, none⟩ :: ⟨bk51_0, kk51_1, .double, 1, none⟩ :: ⟨bk51_2, kk51_3, .int, 1, none⟩ :: []) := own_R_pick Bn56 8 [1, 0, 4, 5, 2, 3] trivial (by decide) (by decide)
    obtain ⟨cqk57, kqk57, qk57a, qk57b, qk57c⟩ := isOf hZ en56 (own_R_exa B58)
    obtain ⟨_, _, ⟨Tk57, Lk57, kk57, nk57⟩, -, Xk57, ⟨Lck57, hQk57, lk57, yk57, zk57⟩, stk57⟩ := Xn56.virtualBack hx (y := (⟨"com/example/placewright/placewright/solver/RevisedSimplex", "addColumn", "([I[DD)I"⟩ : MethodName)) (z := (⟨"com/example/placewright/placewright/solver/RevisedSimplex", "addColumn", "([I[DD)I"⟩ : MethodName)) hown (mvT hZ (own_W hw 170 rfl)) (mvT hZ (own_W hw 138 rfl)) (notFace_of_selects (args := #[]) (mvT hZ (own_W hw 140 rfl))) (mvT hZ (own_W hw 140 rfl)) (mvT hZ (own_W hw 139 rfl)) (by decide) (backOf (W := 0) (own_rm10b l Z a0 hw [] tt aA aK _ _ (⟨bk51_0, kk51_1, .double, 1, none⟩ :: ⟨bk51_2, kk51_3, .int, 1, none⟩ :: []) _ bn53 kn53 _ bn55 kn55 (FP.i2d (own_v0_6 p5)) bk51_4 kk51_5 bk51_6 kk51_7 hn56 n0 (own_R_sz B58) B58 rfl rfl rfl rfl rfl rfl rfl f1_k48 c138_c318_c252_c11_hc19) hZ (own_W hw 141 rfl) (own_W hw 7 rfl) (by decide) (by decide)) qk57a qk57c (g := (mkF m 162 (own_L82 p0 p1 p2 p3 p4 p5 (p0 &&& (1048575 : Int32)) (p1 &&& (1048575 : Int32)) (own_v0_0 p2) (own_v0_1 p3) (own_v0_2 p4) (own_v0_3 p4) (own_v0_4 p4) (p4 >>> ((11 : Int32) &&& 31)) (own_v0_6 p5) tt) [(.double (FP.i2d (own_v0_6 p5))), (.ref bn55), (.ref bn53), (.ref tt)])) rfl (by rw [hml]; rfl) (Steps.refl _) (argsL := [(.ref bn53), (.ref bn55), (.double (FP.i2d (own_v0_6 p5)))]) (rest := []) (lenOf own_pd6 rfl) rfl (by show 2 * 0 + _ ≤ _; exact Nat.le_of_eq rfl) (hb hby at_162) (fun _ _ => ⟨rfl, en56, (by decide : 51 + 2 ≤ _), (by decide : 375 + 2 ≤ _)⟩)
    dsimp only [Pt.U, Pt.locs, Pt.cells, Pt.slots] at Xk57 lk57 yk57 zk57 stk57 hQk57
    replace lk57 := lk57.symm; replace yk57 := yk57.symm; replace zk57 := zk57.symm; subst lk57 yk57 zk57
    obtain ⟨bk57_0, bk57_1, rfl, Nk57q, Bk57⟩ := hQk57
    have Nk57 := Fr.app Nn56 Nk57q
    have B60 : own_R 15 Z n0 Tk57.heap tt aA aK _ _ (⟨bk57_0, kn55, .double, 1, none⟩ :: ⟨bk57_1, kn53, .int, 1, none⟩ :: ⟨bk51_4, kk51_5, .int, 2, none⟩ :: ⟨bk51_6, kk51_7, .double, 2, none⟩ :: ⟨bk51_0, kk51_1, .double, 1, none⟩ :: ⟨bk51_2, kk51_3, .int, 1, none⟩ :: []) := own_R_pick Bk57 8 [0, 1, 4, 5, 6, 7] trivial (by decide) (by decide)
    obtain ⟨cqk59, kqk59, qk59a, qk59b, qk59c⟩ := isOf hZ rfl (own_R_exa B60)
    obtain ⟨_, _, ⟨Tk59, Lk59, kk59, nk59⟩, -, Xk59, ⟨Lck59, hQk59, lk59, yk59, zk59⟩, stk59⟩ := Xk57.virtualBack hx (y := (⟨"com/example/placewright/placewright/solver/RevisedSimplex", "setCost", "(ID)V"⟩ : MethodName)) (z := (⟨"com/example/placewright/placewright/solver/RevisedSimplex", "setCost", "(ID)V"⟩ : MethodName)) hown (mvT hZ (own_W hw 171 rfl)) (mvT hZ (own_W hw 172 rfl)) (notFace_of_selects (args := #[]) (mvT hZ (own_W hw 174 rfl))) (mvT hZ (own_W hw 174 rfl)) (mvT hZ (own_W hw 173 rfl)) (by decide) (backOf (W := 0) (own_rm15a l Z a0 hw [] tt aA aK _ _ (⟨bk57_0, kn55, .double, 1, none⟩ :: ⟨bk57_1, kn53, .int, 1, none⟩ :: ⟨bk51_4, kk51_5, .int, 2, none⟩ :: ⟨bk51_6, kk51_7, .double, 2, none⟩ :: ⟨bk51_0, kk51_1, .double, 1, none⟩ :: ⟨bk51_2, kk51_3, .int, 1, none⟩ :: []) (FP.i2d (p4 >>> ((11 : Int32) &&& 31))) Tk57.heap n0 (own_R_sz B60) B60) hZ (own_W hw 175 rfl) (own_W hw 7 rfl) (by decide) (by decide)) qk59a qk59c (g := (mkF m 183 (own_L83 p0 p1 p2 p3 p4 p5 (p0 &&& (1048575 : Int32)) (p1 &&& (1048575 : Int32)) (own_v0_0 p2) (own_v0_1 p3) (own_v0_2 p4) (own_v0_3 p4) (own_v0_4 p4) (p4 >>> ((11 : Int32) &&& 31)) (own_v0_6 p5) tt ((own_v0_0 p2).toInt64)) [(.double (FP.i2d (p4 >>> ((11 : Int32) &&& 31)))), (.int 0), (.ref tt)])) rfl (by rw [hml]; rfl) (Steps.refl _) (argsL := [(.int 0), (.double (FP.i2d (p4 >>> ((11 : Int32) &&& 31))))]) (rest := []) (lenOf own_pd11 rfl) rfl (by show 2 * 0 + _ ≤ _; exact Nat.le_of_eq rfl) (hb hby at_183) (fun _ _ => ⟨rfl, rfl, (by decide : 53 + 0 ≤ _), (by decide : 377 + 0 ≤ _)⟩)
    dsimp only [Pt.U, Pt.locs, Pt.cells, Pt.slots] at Xk59 lk59 yk59 zk59 stk59 hQk59
    replace lk59 := lk59.symm; replace yk59 := yk59.symm; replace zk59 := zk59.symm; subst lk59 yk59 zk59
    obtain ⟨rfl, Nk59q, Bk59⟩ := hQk59
    have Nk59 := Fr.app Nk57 Nk59q
    obtain ⟨Tn61, hn61, bn61, kn61, Xn61, en61, Bn61, stn61⟩ := own_na Xk59 hx hZ (own_W hw 25 rfl) rfl Bk59 .int rfl (fun _ => trivial) (by decide) (g := (mkF m 222 (own_L85 p0 p1 p2 p3 p4 p5 (p0 &&& (1048575 : Int32)) (p1 &&& (1048575 : Int32)) (own_v0_0 p2) (own_v0_1 p3) (own_v0_2 p4) (own_v0_3 p4) (own_v0_4 p4) (p4 >>> ((11 : Int32) &&& 31)) (own_v0_6 p5) tt (own_v0_12 p0 p4) (own_v0_11 p4) (own_v0_7 p0 p4)) [(.int 1), (.double (FP.i2d (p1 &&& (1048575 : Int32)))), (.ref tt)])) rfl (hb hby at_222) rfl (by decide) (cap := 1) (by decide) (by decide) (by decide) (by decide)
    obtain ⟨Tn62, hn62, Ln62, Xn62, en62, Bn62, Nn62, stn62⟩ := own_shI Xn61 hx hZ en61 Bn61 Nk59 0 (by decide) (g := (mkF m 228 (own_L85 p0 p1 p2 p3 p4 p5 (p0 &&& (1048575 : Int32)) (p1 &&& (1048575 : Int32)) (own_v0_0 p2) (own_v0_1 p3) (own_v0_2 p4) (own_v0_3 p4) (own_v0_4 p4) (p4 >>> ((11 : Int32) &&& 31)) (own_v0_6 p5) tt (own_v0_12 p0 p4) (own_v0_11 p4) (own_v0_7 p0 p4)) [(.int 0), (.int 0), (.ref bn61), (.ref bn61), (.double (FP.i2d (p1 &&& (1048575 : Int32)))), (.ref tt)])) rfl rfl (hb hby at_228)
    obtain ⟨Tn63, hn63, bn63, kn63, Xn63, en63, Bn63, stn63⟩ := own_na Xn62 hx hZ (own_W hw 22 rfl) en62 Bn62 .double rfl (fun _ => trivial) (by decide) (g := (mkF m 230 (own_L85 p0 p1 p2 p3 p4 p5 (p0 &&& (1048575 : Int32)) (p1 &&& (1048575 : Int32)) (own_v0_0 p2) (own_v0_1 p3) (own_v0_2 p4) (own_v0_3 p4) (own_v0_4 p4) (p4 >>> ((11 : Int32) &&& 31)) (own_v0_6 p5) tt (own_v0_12 p0 p4) (own_v0_11 p4) (own_v0_7 p0 p4)) [(.int 1), (.ref bn61), (.double (FP.i2d (p1 &&& (1048575 : Int32)))), (.ref tt)])) rfl (hb hby at_230) rfl (by decide) (cap := 1) (by decide) (by decide) (by decide) (by decide)
    obtain ⟨Tn64, hn64, Ln64, Xn64, en64, Bn64, Nn64, stn64⟩ := own_shD Xn63 hx hZ en63 Bn63 Nn62 0 (by decide) (g := (mkF m 238 (own_L85 p0 p1 p2 p3 p4 p5 (p0 &&& (1048575 : Int32)) (p1 &&& (1048575 : Int32)) (own_v0_0 p2) (own_v0_1 p3) (own_v0_2 p4) (own_v0_3 p4) (own_v0_4 p4) (p4 >>> ((11 : Int32) &&& 31)) (own_v0_6 p5) tt (own_v0_12 p0 p4) (own_v0_11 p4) (own_v0_7 p0 p4)) [(.double (FP.i2d (-(own_v0_4 p4)))), (.int 0), (.ref bn63), (.ref bn63), (.ref bn61), (.double (FP.i2d (p1 &&& (1048575 : Int32)))), (.ref tt)])) rfl rfl (hb hby at_238)
    have B66 : own_R 15 Z n0 hn64 tt aA aK _ _ (⟨bn61, kn61, .int, 1, some (own_up (own_all (.int 0)) 0 (.int 0))⟩ :: ⟨bn63, kn63, .double, 1, some (own_up (own_all (.double 0)) 0 (.double (FP.i2d (-(own_v0_4 p4)))))⟩ :: ⟨bk51_2, kk51_3, .int, 1, none⟩ :: ⟨bk51_0, kk51_1, .double, 1, none⟩ :: ⟨bk51_4, kk51_5, .int, 2, none⟩ :: ⟨bk51_6, kk51_7, .double, 2, none⟩ :: ⟨bk57_0, kn55, .double, 1, none⟩ :: ⟨bk57_1, kn53, .int, 1, none⟩ :: []) := own_R_pick Bn64 8 [1, 0, 7, 6, 4, 5, 2, 3] trivial (by decide) (by decide)
    obtain ⟨cqk65, kqk65, qk65a, qk65b, qk65c⟩ := isOf hZ en64 (own_R_exa B66)
    obtain ⟨_, _, ⟨Tk65, Lk65, kk65, nk65⟩, -, Xk65, ⟨Lck65, hQk65, lk65, yk65, zk65⟩, stk65⟩ := Xn64.virtualBack hx (y := (⟨"com/example/placewright/placewright/solver/RevisedSimplex", "addRow", "(D[I[DDD)I"⟩ : MethodName)) (z := (⟨"com/example/placewright/placewright/solver/RevisedSimplex", "addRow", "(D[I[DDD)I"⟩ : MethodName)) hown (mvT hZ (own_W hw 124 rfl)) (mvT hZ (own_W hw 125 rfl)) (notFace_of_selects (args := #[]) (mvT hZ (own_W hw 127 rfl))) (mvT hZ (own_W hw 127 rfl)) (mvT hZ (own_W hw 126 rfl)) (by decide) (backOf (W := 0) (own_rm8b l Z a0 hw [] tt aA aK _ _ (⟨bk57_0, kn55, .double, 1, none⟩ :: ⟨bk57_1, kn53, .int, 1, none⟩ :: []) (FP.i2d (p1 &&& (1048575 : Int32))) _ bn61 kn61 _ bn63 kn63 (FP.i2d (own_v0_3 p4)) (FP.i2d (own_v0_1 p3)) bk51_2 kk51_3 bk51_0 kk51_1 bk51_4 kk51_5 bk51_6 kk51_7 (FP.i2d (-(own_v0_4 p4))) (own_v8a_1 (FP.i2d (p0 &&& (1048575 : Int32))) (FP.i2d (own_v0_2 p4))) hn64 n0 (own_R_sz B66) B66 rfl v18_k48 rfl rfl rfl rfl rfl rfl c245_nn236 c245_nn237 c245_nn249 c245_nn252 c245_hc261 rfl rfl rfl f2_k48 c138_c318_c252_c11_hc19 c138_nx349 c245_ny349) hZ (own_W hw 128 rfl) (own_W hw 7 rfl) (by decide) (by decide)) qk65a qk65c (g := (mkF m 245 (own_L85 p0 p1 p2 p3 p4 p5 (p0 &&& (1048575 : Int32)) (p1 &&& (1048575 : Int32)) (own_v0_0 p2) (own_v0_1 p3) (own_v0_2 p4) (own_v0_3 p4) (own_v0_4 p4) (p4 >>> ((11 : Int32) &&& 31)) (own_v0_6 p5) tt (own_v0_12 p0 p4) (own_v0_11 p4) (own_v0_7 p0 p4)) [(.double (FP.i2d (own_v0_1 p3))), (.double (FP.i2d (own_v0_3 p4))), (.ref bn63), (.ref bn61), (.double (FP.i2d (p1 &&& (1048575 : Int32)))), (.ref tt)])) rfl (by rw [hml]; rfl) (Steps.refl _) (argsL := [(.double (FP.i2d (p1 &&& (1048575 : Int32)))), (.ref bn61), (.ref bn63), (.double (FP.i2d (own_v0_3 p4))), (.double (FP.i2d (own_v0_1 p3)))]) (rest := []) (lenOf own_pd8 rfl) rfl (by show 2 * 0 + _ ≤ _; exact Nat.le_of_eq rfl) (hb hby at_245) (fun _ _ => ⟨rfl, en64, (by decide : 55 + 8 ≤ _), (by decide : 379 + 12 ≤ _)⟩)
    dsimp only [Pt.U, Pt.locs, Pt.cells, Pt.slots] at Xk65 lk65 yk65 zk65 stk65 hQk65
    replace lk65 := lk65.symm; replace yk65 := yk65.symm; replace zk65 := zk65.symm; subst lk65 yk65 zk65
    obtain ⟨bk65_0, kk65_1, bk65_2, kk65_3, bk65_4, kk65_5, bk65_6, kk65_7, bk65_8, kk65_9, bk65_10, kk65_11, rfl, Nk65q, Bk65⟩ := hQk65
    have Nk65 := Fr.app Nn64 Nk65q
    have B68 : own_R 15 Z n0 Tk65.heap tt aA aK _ _ (⟨bk65_0, kk65_1, .double, 1, none⟩ :: ⟨bk65_2, kk65_3, .int, 1, none⟩ :: ⟨bk65_4, kk65_5, .int, 2, none⟩ :: ⟨bk65_6, kk65_7, .double, 2, none⟩ :: ⟨bk65_8, kk65_9, .double, 2, none⟩ :: ⟨bk65_10, kk65_11, .int, 2, none⟩ :: ⟨bk51_4, kk51_5, .int, 2, none⟩ :: ⟨bk51_6, kk51_7, .double, 2, none⟩ :: ⟨bk57_0, kn55, .double, 1, none⟩ :: ⟨bk57_1, kn53, .int, 1, none⟩ :: []) := own_R_pick Bk65 14 [0, 1, 2, 3, 4, 5, 10, 11, 12, 13] trivial (by decide) (by decide)
    obtain ⟨cqk67, kqk67, qk67a, qk67b, qk67c⟩ := isOf hZ rfl (own_R_exa B68)
    obtain ⟨_, _, ⟨Tk67, Lk67, kk67, nk67⟩, -, Xk67, ⟨Lck67, hQk67, lk67, yk67, zk67⟩, stk67⟩ := Xk65.virtualBack hx (y := (⟨"com/example/placewright/placewright/solver/RevisedSimplex", "objective", "()D"⟩ : MethodName)) (z := (⟨"com/example/placewright/placewright/solver/RevisedSimplex", "objective", "()D"⟩ : MethodName)) hown (mvT hZ (own_W hw 116 rfl)) (mvT hZ (own_W hw 117 rfl)) (notFace_of_selects (args := #[]) (mvT hZ (own_W hw 119 rfl))) (mvT hZ (own_W hw 119 rfl)) (mvT hZ (own_W hw 118 rfl)) (by decide) (backOf (W := 0) (own_rm7c l Z a0 hw [] tt aA aK _ _ (⟨bk65_0, kk65_1, .double, 1, none⟩ :: ⟨bk65_2, kk65_3, .int, 1, none⟩ :: ⟨bk65_4, kk65_5, .int, 2, none⟩ :: ⟨bk65_6, kk65_7, .double, 2, none⟩ :: ⟨bk65_8, kk65_9, .double, 2, none⟩ :: ⟨bk65_10, kk65_11, .int, 2, none⟩ :: ⟨bk51_4, kk51_5, .int, 2, none⟩ :: ⟨bk51_6, kk51_7, .double, 2, none⟩ :: ⟨bk57_0, kn55, .double, 1, none⟩ :: ⟨bk57_1, kn53, .int, 1, none⟩ :: []) (FP.i2d (p4 >>> ((11 : Int32) &&& 31))) (own_v8a_1 (FP.i2d (p0 &&& (1048575 : Int32))) (FP.i2d (own_v0_2 p4))) (FP.i2d (own_v0_1 p3)) (own_v8b_2 (FP.i2d (p1 &&& (1048575 : Int32))) (FP.i2d (own_v0_3 p4)) (FP.i2d (-(own_v0_4 p4))) (own_v8a_1 (FP.i2d (p0 &&& (1048575 : Int32))) (FP.i2d (own_v0_2 p4)))) Tk65.heap n0 (own_R_sz B68) B68 rfl rfl rfl rfl c290_nn30_3 c290_nn31_3 rfl rfl rfl c290_nn30_2 c290_nn31_2_2) hZ (own_W hw 120 rfl) (own_W hw 7 rfl) (by decide) (by decide)) qk67a qk67c (g := (mkF m 290 (own_L86 p0 p1 p2 p3 p4 p5 (p0 &&& (1048575 : Int32)) (p1 &&& (1048575 : Int32)) (own_v0_0 p2) (own_v0_1 p3) (own_v0_2 p4) (own_v0_3 p4) (own_v0_4 p4) (p4 >>> ((11 : Int32) &&& 31)) (own_v0_6 p5) tt (own_v0_13 p0 p1 p3 p4) (own_v0_11 p4) (own_v0_7 p0 p4) (own_v0_9 p0 p1 p4)) [(.ref tt)])) rfl (by rw [hml]; rfl) (Steps.refl _) (argsL := []) (rest := []) (lenOf own_pd3 rfl) rfl (by show 2 * 0 + _ ≤ _; exact Nat.le_of_eq rfl) (hb hby at_290) (fun _ _ => ⟨rfl, rfl, (by decide : 63 + 0 ≤ _), (by decide : 391 + 0 ≤ _)⟩)
    dsimp only [Pt.U, Pt.locs, Pt.cells, Pt.slots] at Xk67 lk67 yk67 zk67 stk67 hQk67
    replace lk67 := lk67.symm; replace yk67 := yk67.symm; replace zk67 := zk67.symm; subst lk67 yk67 zk67
    obtain ⟨rfl, Nk67q, Bk67⟩ := hQk67
    have Nk67 := Fr.app Nk65 Nk67q
    obtain ⟨fs, hr, hrun, hended, hW, hsame⟩ := Xk67.leave (v := some (.int 1)) (fun h => by rw [Bd.returns] at h; cases h)
    refine ⟨_, _, pre0 _ (Ks1 _ (K45 _ (?_))), hrun, hended, _, _, rfl, ?_, ⟨_, rfl⟩, hW, hsame.mono (by decide) (by decide)⟩
    · show Steps p.tables e below (s₁.setTop (mkF m 65 (own_L75 p0 p1 p2 p3 p4 p5 (p0 &&& (1048575 : Int32)) (p1 &&& (1048575 : Int32)) (own_v0_0 p2) (own_v0_1 p3) (own_v0_2 p4) (own_v0_3 p4) (own_v0_4 p4)) [])) _
      refine XS.iload X0.here hx rfl (hb hby at_65) rfl ?_
      refine XS.bipush X0.here hx rfl (hb hby at_67) ?_
      refine XT.ishr X0.here hx rfl (hb hby at_69) rfl ?_
      refine XS.istore X0.here hx rfl (hb hby at_70) rfl (l' := (own_L76 p0 p1 p2 p3 p4 p5 (p0 &&& (1048575 : Int32)) (p1 &&& (1048575 : Int32)) (own_v0_0 p2) (own_v0_1 p3) (own_v0_2 p4) (own_v0_3 p4) (own_v0_4 p4) (p4 >>> ((11 : Int32) &&& 31)))) rfl ?_
      refine XS.iload X0.here hx rfl (hb hby at_72) rfl ?_
      refine XS.bipush X0.here hx rfl (hb hby at_74) ?_
      refine XT.ishl X0.here hx rfl (hb hby at_76) rfl ?_
      refine XS.bipush X0.here hx rfl (hb hby at_77) ?_
      refine XT.ishr X0.here hx rfl (hb hby at_79) rfl ?_
      refine XS.istore X0.here hx rfl (hb hby at_80) rfl (l' := (own_L77 p0 p1 p2 p3 p4 p5 (p0 &&& (1048575 : Int32)) (p1 &&& (1048575 : Int32)) (own_v0_0 p2) (own_v0_1 p3) (own_v0_2 p4) (own_v0_3 p4) (own_v0_4 p4) (p4 >>> ((11 : Int32) &&& 31)) (own_v0_6 p5))) rfl ?_
      refine XS.iload X0.here hx rfl (hb hby at_82) rfl ?_
      refine XS.iconst X0.here hx rfl (hb hby at_84) ?_
      refine stk46 _ ?_
      show Steps p.tables e below (Tk46.setTop (mkF m 88 (own_L77 p0 p1 p2 p3 p4 p5 (p0 &&& (1048575 : Int32)) (p1 &&& (1048575 : Int32)) (own_v0_0 p2) (own_v0_1 p3) (own_v0_2 p4) (own_v0_3 p4) (own_v0_4 p4) (p4 >>> ((11 : Int32) &&& 31)) (own_v0_6 p5)) [(.int 2)])) _
      refine XS.istore Xk46.here hx rfl (hb hby at_88) rfl (l' := (own_L78 p0 p1 p2 p3 p4 p5 (p0 &&& (1048575 : Int32)) (p1 &&& (1048575 : Int32)) (own_v0_0 p2) (own_v0_1 p3) (own_v0_2 p4) (own_v0_3 p4) (own_v0_4 p4) (p4 >>> ((11 : Int32) &&& 31)) (own_v0_6 p5))) rfl ?_
      refine XS.iload Xk46.here hx rfl (hb hby at_90) rfl ?_
      refine XS.iconst Xk46.here hx rfl (hb hby at_92) ?_
      refine XS.icmpNo Xk46.here hx rfl (hb hby at_93) rfl (XT.ii_ne_f (by decide : (3 : Int32) = (3 : Int32))) ?_
      refine XS.iconst Xk46.here hx rfl (hb hby at_96) ?_
      refine XS.goto Xk46.here hx rfl (pc0 := 97) (pc' := 101) rfl (hb hby at_97) (by decide) (by decide) ?_
      refine XS.istore Xk46.here hx rfl (hb hby at_101) rfl (l' := (own_L79 p0 p1 p2 p3 p4 p5 (p0 &&& (1048575 : Int32)) (p1 &&& (1048575 : Int32)) (own_v0_0 p2) (own_v0_1 p3) (own_v0_2 p4) (own_v0_3 p4) (own_v0_4 p4) (p4 >>> ((11 : Int32) &&& 31)) (own_v0_6 p5))) rfl ?_
      refine stn47 _ ?_
      show Steps p.tables e below (Tn47.setTop (mkF m 106 (own_L79 p0 p1 p2 p3 p4 p5 (p0 &&& (1048575 : Int32)) (p1 &&& (1048575 : Int32)) (own_v0_0 p2) (own_v0_1 p3) (own_v0_2 p4) (own_v0_3 p4) (own_v0_4 p4) (p4 >>> ((11 : Int32) &&& 31)) (own_v0_6 p5)) [(.ref tt)])) _
      refine XS.dup Xn47.here hx rfl (hb hby at_106) rfl rfl ?_
      refine stk48.trans ?_
      refine XS.astore Xk48.here hx rfl (hb hby at_110) rfl rfl (l' := (own_L80 p0 p1 p2 p3 p4 p5 (p0 &&& (1048575 : Int32)) (p1 &&& (1048575 : Int32)) (own_v0_0 p2) (own_v0_1 p3) (own_v0_2 p4) (own_v0_3 p4) (own_v0_4 p4) (p4 >>> ((11 : Int32) &&& 31)) (own_v0_6 p5) tt)) rfl ?_
      refine XT.lconst Xk48.here hx rfl (hb hby at_112) ?_
      refine XT.lstore Xk48.here hx rfl (hb hby at_113) rfl (l' := (own_L81 p0 p1 p2 p3 p4 p5 (p0 &&& (1048575 : Int32)) (p1 &&& (1048575 : Int32)) (own_v0_0 p2) (own_v0_1 p3) (own_v0_2 p4) (own_v0_3 p4) (own_v0_4 p4) (p4 >>> ((11 : Int32) &&& 31)) (own_v0_6 p5) tt)) rfl ?_
      refine XS.iload Xk48.here hx rfl (hb hby at_115) rfl ?_
      refine XS.iconst Xk48.here hx rfl (hb hby at_117) ?_
      refine XS.icmpNo Xk48.here hx rfl (hb hby at_118) rfl (XT.ii_lt_f (by decide : ¬ ((2 : Int32) < (1 : Int32)))) ?_
      refine XS.aload Xk48.here hx rfl (hb hby at_121) rfl rfl ?_
      refine XS.iload Xk48.here hx rfl (hb hby at_123) rfl ?_
      refine XS.i2dS Xk48.here hx rfl (hb hby at_125) rfl rfl ?_
      refine XS.iconst Xk48.here hx rfl (hb hby at_126) ?_
      refine stn49 _ ?_
      show Steps p.tables e below (Tn49.setTop (mkF m 129 (own_L81 p0 p1 p2 p3 p4 p5 (p0 &&& (1048575 : Int32)) (p1 &&& (1048575 : Int32)) (own_v0_0 p2) (own_v0_1 p3) (own_v0_2 p4) (own_v0_3 p4) (own_v0_4 p4) (p4 >>> ((11 : Int32) &&& 31)) (own_v0_6 p5) tt) [(.ref bn49), (.double (FP.i2d (p0 &&& (1048575 : Int32)))), (.ref tt)])) _
      refine XS.iconst Xn49.here hx rfl (hb hby at_129) ?_
      refine stn50 _ ?_
      refine XS.iload Xn50.here hx rfl (hb hby at_132) rfl ?_
      refine XS.i2dS Xn50.here hx rfl (hb hby at_134) rfl rfl ?_
      refine XS.iload Xn50.here hx rfl (hb hby at_135) rfl ?_
      refine XS.i2dS Xn50.here hx rfl (hb hby at_137) rfl rfl ?_
      refine stk51.trans ?_
      show Steps p.tables e below (Tk51.setTop (mkF m 141 (own_L81 p0 p1 p2 p3 p4 p5 (p0 &&& (1048575 : Int32)) (p1 &&& (1048575 : Int32)) (own_v0_0 p2) (own_v0_1 p3) (own_v0_2 p4) (own_v0_3 p4) (own_v0_4 p4) (p4 >>> ((11 : Int32) &&& 31)) (own_v0_6 p5) tt) [(.int 0)])) _
      refine XS.istore Xk51.here hx rfl (hb hby at_141) rfl (l' := (own_L82 p0 p1 p2 p3 p4 p5 (p0 &&& (1048575 : Int32)) (p1 &&& (1048575 : Int32)) (own_v0_0 p2) (own_v0_1 p3) (own_v0_2 p4) (own_v0_3 p4) (own_v0_4 p4) (p4 >>> ((11 : Int32) &&& 31)) (own_v0_6 p5) tt)) rfl ?_
      refine XS.aload Xk51.here hx rfl (hb hby at_143) rfl rfl ?_
      refine XS.iconst Xk51.here hx rfl (hb hby at_145) ?_
      refine stn53 _ ?_
      show Steps p.tables e below (Tn53.setTop (mkF m 148 (own_L82 p0 p1 p2 p3 p4 p5 (p0 &&& (1048575 : Int32)) (p1 &&& (1048575 : Int32)) (own_v0_0 p2) (own_v0_1 p3) (own_v0_2 p4) (own_v0_3 p4) (own_v0_4 p4) (p4 >>> ((11 : Int32) &&& 31)) (own_v0_6 p5) tt) [(.ref bn53), (.ref tt)])) _
      refine XS.dup Xn53.here hx rfl (hb hby at_148) rfl rfl ?_
      refine XS.iconst Xn53.here hx rfl (hb hby at_149) ?_
      refine XS.iconst Xn53.here hx rfl (hb hby at_150) ?_
      refine stn54 _ ?_
      show Steps p.tables e below (Tn54.setTop (mkF m 152 (own_L82 p0 p1 p2 p3 p4 p5 (p0 &&& (1048575 : Int32)) (p1 &&& (1048575 : Int32)) (own_v0_0 p2) (own_v0_1 p3) (own_v0_2 p4) (own_v0_3 p4) (own_v0_4 p4) (p4 >>> ((11 : Int32) &&& 31)) (own_v0_6 p5) tt) [(.ref bn53), (.ref tt)])) _
      refine XS.iconst Xn54.here hx rfl (hb hby at_152) ?_
      refine stn55 _ ?_
      refine XS.dup Xn55.here hx rfl (hb hby at_155) rfl rfl ?_
      refine XS.iconst Xn55.here hx rfl (hb hby at_156) ?_
      refine XS.dconst1 Xn55.here hx rfl (hb hby at_157) (v := (4607182418800017408 : UInt64)) (by decide +kernel) ?_
      show Steps p.tables e below (Tn55.setTop (mkF m 158 (own_L82 p0 p1 p2 p3 p4 p5 (p0 &&& (1048575 : Int32)) (p1 &&& (1048575 : Int32)) (own_v0_0 p2) (own_v0_1 p3) (own_v0_2 p4) (own_v0_3 p4) (own_v0_4 p4) (p4 >>> ((11 : Int32) &&& 31)) (own_v0_6 p5) tt) [(.double 4607182418800017408), (.int 0), (.ref bn55), (.ref bn55), (.ref bn53), (.ref tt)])) _
      refine stn56 _ ?_
      refine XS.iload Xn56.here hx rfl (hb hby at_159) rfl ?_
      refine XS.i2dS Xn56.here hx rfl (hb hby at_161) rfl rfl ?_
      refine stk57.trans ?_
      show Steps p.tables e below (Tk57.setTop (mkF m 165 (own_L82 p0 p1 p2 p3 p4 p5 (p0 &&& (1048575 : Int32)) (p1 &&& (1048575 : Int32)) (own_v0_0 p2) (own_v0_1 p3) (own_v0_2 p4) (own_v0_3 p4) (own_v0_4 p4) (p4 >>> ((11 : Int32) &&& 31)) (own_v0_6 p5) tt) [(.int 1)])) _
      refine XT.pop Xk57.here hx rfl (hb hby at_165) rfl rfl ?_
      refine XS.iload Xk57.here hx rfl (hb hby at_166) rfl ?_
      refine XT.i2l Xk57.here hx rfl (hb hby at_168) rfl ?_
      refine XT.lstore Xk57.here hx rfl (hb hby at_169) rfl (l' := (own_L83 p0 p1 p2 p3 p4 p5 (p0 &&& (1048575 : Int32)) (p1 &&& (1048575 : Int32)) (own_v0_0 p2) (own_v0_1 p3) (own_v0_2 p4) (own_v0_3 p4) (own_v0_4 p4) (p4 >>> ((11 : Int32) &&& 31)) (own_v0_6 p5) tt ((own_v0_0 p2).toInt64))) rfl ?_
      refine XS.iload Xk57.here hx rfl (hb hby at_171) rfl ?_
      refine XS.ifNo Xk57.here hx rfl (hb hby at_173) rfl (XT.i0_eq_f (by decide : ¬ ((1 : Int32) = (0 : Int32)))) ?_
      refine XS.aload Xk57.here hx rfl (hb hby at_176) rfl rfl ?_
      refine XS.iload Xk57.here hx rfl (hb hby at_178) rfl ?_
      refine XS.iload Xk57.here hx rfl (hb hby at_180) rfl ?_
      refine XS.i2dS Xk57.here hx rfl (hb hby at_182) rfl rfl ?_
      refine stk59.trans ?_
      show Steps p.tables e below (Tk59.setTop (mkF m 186 (own_L83 p0 p1 p2 p3 p4 p5 (p0 &&& (1048575 : Int32)) (p1 &&& (1048575 : Int32)) (own_v0_0 p2) (own_v0_1 p3) (own_v0_2 p4) (own_v0_3 p4) (own_v0_4 p4) (p4 >>> ((11 : Int32) &&& 31)) (own_v0_6 p5) tt ((own_v0_0 p2).toInt64)) [])) _
      refine XS.iload Xk59.here hx rfl (hb hby at_186) rfl ?_
      refine XT.i2l Xk59.here hx rfl (hb hby at_188) rfl ?_
      refine XT.lstore Xk59.here hx rfl (hb hby at_189) rfl (l' := (own_L83 p0 p1 p2 p3 p4 p5 (p0 &&& (1048575 : Int32)) (p1 &&& (1048575 : Int32)) (own_v0_0 p2) (own_v0_1 p3) (own_v0_2 p4) (own_v0_3 p4) (own_v0_4 p4) (p4 >>> ((11 : Int32) &&& 31)) (own_v0_6 p5) tt (own_v0_11 p4))) rfl ?_
      refine XS.iload Xk59.here hx rfl (hb hby at_191) rfl ?_
      refine XT.i2l Xk59.here hx rfl (hb hby at_193) rfl ?_
      refine XS.bipush Xk59.here hx rfl (hb hby at_194) ?_
      refine XS.iload Xk59.here hx rfl (hb hby at_196) rfl ?_
      refine XS.idiv Xk59.here hx rfl (hb hby at_198) rfl hz198 ?_
      refine XT.i2l Xk59.here hx rfl (hb hby at_199) rfl ?_
      refine XT.lmul Xk59.here hx rfl (hb hby at_200) rfl ?_
      refine XT.lstore Xk59.here hx rfl (hb hby at_201) rfl (l' := (own_L84 p0 p1 p2 p3 p4 p5 (p0 &&& (1048575 : Int32)) (p1 &&& (1048575 : Int32)) (own_v0_0 p2) (own_v0_1 p3) (own_v0_2 p4) (own_v0_3 p4) (own_v0_4 p4) (p4 >>> ((11 : Int32) &&& 31)) (own_v0_6 p5) tt (own_v0_11 p4) (own_v0_7 p0 p4))) rfl ?_
      refine XT.lload Xk59.here hx rfl (hb hby at_203) rfl ?_
      refine XT.lload Xk59.here hx rfl (hb hby at_205) rfl ?_
      refine XT.lmul Xk59.here hx rfl (hb hby at_207) rfl ?_
      refine XT.lstore Xk59.here hx rfl (hb hby at_208) rfl (l' := (own_L85 p0 p1 p2 p3 p4 p5 (p0 &&& (1048575 : Int32)) (p1 &&& (1048575 : Int32)) (own_v0_0 p2) (own_v0_1 p3) (own_v0_2 p4) (own_v0_3 p4) (own_v0_4 p4) (p4 >>> ((11 : Int32) &&& 31)) (own_v0_6 p5) tt (own_v0_12 p0 p4) (own_v0_11 p4) (own_v0_7 p0 p4))) rfl ?_
      refine XS.iload Xk59.here hx rfl (hb hby at_210) rfl ?_
      refine XS.iconst Xk59.here hx rfl (hb hby at_212) ?_
      refine XS.icmpNo Xk59.here hx rfl (hb hby at_213) rfl (XT.ii_lt_f (by decide : ¬ ((2 : Int32) < (2 : Int32)))) ?_
      refine XS.aload Xk59.here hx rfl (hb hby at_216) rfl rfl ?_
      refine XS.iload Xk59.here hx rfl (hb hby at_218) rfl ?_
      refine XS.i2dS Xk59.here hx rfl (hb hby at_220) rfl rfl ?_
      refine XS.iconst Xk59.here hx rfl (hb hby at_221) ?_
      refine stn61 _ ?_
      show Steps p.tables e below (Tn61.setTop (mkF m 224 (own_L85 p0 p1 p2 p3 p4 p5 (p0 &&& (1048575 : Int32)) (p1 &&& (1048575 : Int32)) (own_v0_0 p2) (own_v0_1 p3) (own_v0_2 p4) (own_v0_3 p4) (own_v0_4 p4) (p4 >>> ((11 : Int32) &&& 31)) (own_v0_6 p5) tt (own_v0_12 p0 p4) (own_v0_11 p4) (own_v0_7 p0 p4)) [(.ref bn61), (.double (FP.i2d (p1 &&& (1048575 : Int32)))), (.ref tt)])) _
      refine XS.dup Xn61.here hx rfl (hb hby at_224) rfl rfl ?_
      refine XS.iconst Xn61.here hx rfl (hb hby at_225) ?_
      refine XS.iload Xn61.here hx rfl (hb hby at_226) rfl ?_
      refine stn62 _ ?_
      show Steps p.tables e below (Tn62.setTop (mkF m 229 (own_L85 p0 p1 p2 p3 p4 p5 (p0 &&& (1048575 : Int32)) (p1 &&& (1048575 : Int32)) (own_v0_0 p2) (own_v0_1 p3) (own_v0_2 p4) (own_v0_3 p4) (own_v0_4 p4) (p4 >>> ((11 : Int32) &&& 31)) (own_v0_6 p5) tt (own_v0_12 p0 p4) (own_v0_11 p4) (own_v0_7 p0 p4)) [(.ref bn61), (.double (FP.i2d (p1 &&& (1048575 : Int32)))), (.ref tt)])) _
      refine XS.iconst Xn62.here hx rfl (hb hby at_229) ?_
      refine stn63 _ ?_
      refine XS.dup Xn63.here hx rfl (hb hby at_232) rfl rfl ?_
      refine XS.iconst Xn63.here hx rfl (hb hby at_233) ?_
      refine XS.iload Xn63.here hx rfl (hb hby at_234) rfl ?_
      refine XS.ineg Xn63.here hx rfl (hb hby at_236) rfl ?_
      show Steps p.tables e below (Tn63.setTop (mkF m 237 (own_L85 p0 p1 p2 p3 p4 p5 (p0 &&& (1048575 : Int32)) (p1 &&& (1048575 : Int32)) (own_v0_0 p2) (own_v0_1 p3) (own_v0_2 p4) (own_v0_3 p4) (own_v0_4 p4) (p4 >>> ((11 : Int32) &&& 31)) (own_v0_6 p5) tt (own_v0_12 p0 p4) (own_v0_11 p4) (own_v0_7 p0 p4)) [(.int (-(own_v0_4 p4))), (.int 0), (.ref bn63), (.ref bn63), (.ref bn61), (.double (FP.i2d (p1 &&& (1048575 : Int32)))), (.ref tt)])) _
      refine XS.i2dS Xn63.here hx rfl (hb hby at_237) rfl rfl ?_
      refine stn64 _ ?_
      refine XS.iload Xn64.here hx rfl (hb hby at_239) rfl ?_
      refine XS.i2dS Xn64.here hx rfl (hb hby at_241) rfl rfl ?_
      refine XS.iload Xn64.here hx rfl (hb hby at_242) rfl ?_
      refine XS.i2dS Xn64.here hx rfl (hb hby at_244) rfl rfl ?_
      refine stk65.trans ?_
      show Steps p.tables e below (Tk65.setTop (mkF m 248 (own_L85 p0 p1 p2 p3 p4 p5 (p0 &&& (1048575 : Int32)) (p1 &&& (1048575 : Int32)) (own_v0_0 p2) (own_v0_1 p3) (own_v0_2 p4) (own_v0_3 p4) (own_v0_4 p4) (p4 >>> ((11 : Int32) &&& 31)) (own_v0_6 p5) tt (own_v0_12 p0 p4) (own_v0_11 p4) (own_v0_7 p0 p4)) [(.int 2)])) _
      refine XT.pop Xk65.here hx rfl (hb hby at_248) rfl rfl ?_
      refine XS.iload Xk65.here hx rfl (hb hby at_249) rfl ?_
      refine XT.i2l Xk65.here hx rfl (hb hby at_251) rfl ?_
      refine Xk65.ldc2Long hx hown (mvT hZ (own_W hw 188 rfl)) (g := (mkF m 252 (own_L85 p0 p1 p2 p3 p4 p5 (p0 &&& (1048575 : Int32)) (p1 &&& (1048575 : Int32)) (own_v0_0 p2) (own_v0_1 p3) (own_v0_2 p4) (own_v0_3 p4) (own_v0_4 p4) (p4 >>> ((11 : Int32) &&& 31)) (own_v0_6 p5) tt (own_v0_12 p0 p4) (own_v0_11 p4) (own_v0_7 p0 p4)) [(.long (p1 &&& (1048575 : Int32)).toInt64)])) rfl (hb hby at_252) _ ?_
      show Steps p.tables e below (Tk65.setTop (mkF m 255 (own_L85 p0 p1 p2 p3 p4 p5 (p0 &&& (1048575 : Int32)) (p1 &&& (1048575 : Int32)) (own_v0_0 p2) (own_v0_1 p3) (own_v0_2 p4) (own_v0_3 p4) (own_v0_4 p4) (p4 >>> ((11 : Int32) &&& 31)) (own_v0_6 p5) tt (own_v0_12 p0 p4) (own_v0_11 p4) (own_v0_7 p0 p4)) [(.long 64), (.long (p1 &&& (1048575 : Int32)).toInt64)])) _
      refine XT.lmul Xk65.here hx rfl (hb hby at_255) rfl ?_
      refine XS.iload Xk65.here hx rfl (hb hby at_256) rfl ?_
      refine XT.i2l Xk65.here hx rfl (hb hby at_258) rfl ?_
      refine XS.iload Xk65.here hx rfl (hb hby at_259) rfl ?_
      refine XT.i2l Xk65.here hx rfl (hb hby at_261) rfl ?_
      refine XT.lmul Xk65.here hx rfl (hb hby at_262) rfl ?_
      refine XS.bipush Xk65.here hx rfl (hb hby at_263) ?_
      refine XS.iload Xk65.here hx rfl (hb hby at_265) rfl ?_
      refine XS.idiv Xk65.here hx rfl (hb hby at_267) rfl hz198 ?_
      refine XT.i2l Xk65.here hx rfl (hb hby at_268) rfl ?_
      refine XT.lmul Xk65.here hx rfl (hb hby at_269) rfl ?_
      refine XT.ladd Xk65.here hx rfl (hb hby at_270) rfl ?_
      refine XS.iload Xk65.here hx rfl (hb hby at_271) rfl ?_
      refine XT.i2l Xk65.here hx rfl (hb hby at_273) rfl ?_
      refine XT.ldiv Xk65.here hx rfl (hb hby at_274) rfl hz274 ?_
      refine XT.lstore Xk65.here hx rfl (hb hby at_275) rfl (l' := (own_L86 p0 p1 p2 p3 p4 p5 (p0 &&& (1048575 : Int32)) (p1 &&& (1048575 : Int32)) (own_v0_0 p2) (own_v0_1 p3) (own_v0_2 p4) (own_v0_3 p4) (own_v0_4 p4) (p4 >>> ((11 : Int32) &&& 31)) (own_v0_6 p5) tt (own_v0_12 p0 p4) (own_v0_11 p4) (own_v0_7 p0 p4) (own_v0_9 p0 p1 p4))) rfl ?_
      refine XT.lload Xk65.here hx rfl (hb hby at_277) rfl ?_
      refine XS.iload Xk65.here hx rfl (hb hby at_279) rfl ?_
      refine XT.i2l Xk65.here hx rfl (hb hby at_281) rfl ?_
      refine XT.lload Xk65.here hx rfl (hb hby at_282) rfl ?_
      refine XT.lmul Xk65.here hx rfl (hb hby at_284) rfl ?_
      refine XT.ladd Xk65.here hx rfl (hb hby at_285) rfl ?_
      refine XT.lstore Xk65.here hx rfl (hb hby at_286) rfl (l' := (own_L86 p0 p1 p2 p3 p4 p5 (p0 &&& (1048575 : Int32)) (p1 &&& (1048575 : Int32)) (own_v0_0 p2) (own_v0_1 p3) (own_v0_2 p4) (own_v0_3 p4) (own_v0_4 p4) (p4 >>> ((11 : Int32) &&& 31)) (own_v0_6 p5) tt (own_v0_13 p0 p1 p3 p4) (own_v0_11 p4) (own_v0_7 p0 p4) (own_v0_9 p0 p1 p4))) rfl ?_
      refine XS.aload Xk65.here hx rfl (hb hby at_288) rfl rfl ?_
      refine stk67.trans ?_
      show Steps p.tables e below (Tk67.setTop (mkF m 293 (own_L86 p0 p1 p2 p3 p4 p5 (p0 &&& (1048575 : Int32)) (p1 &&& (1048575 : Int32)) (own_v0_0 p2) (own_v0_1 p3) (own_v0_2 p4) (own_v0_3 p4) (own_v0_4 p4) (p4 >>> ((11 : Int32) &&& 31)) (own_v0_6 p5) tt (own_v0_13 p0 p1 p3 p4) (own_v0_11 p4) (own_v0_7 p0 p4) (own_v0_9 p0 p1 p4)) [(.double (own_r7c_2 (FP.i2d (p4 >>> ((11 : Int32) &&& 31))) (own_v8a_1 (FP.i2d (p0 &&& (1048575 : Int32))) (FP.i2d (own_v0_2 p4))) (FP.i2d (own_v0_1 p3)) (own_v8b_2 (FP.i2d (p1 &&& (1048575 : Int32))) (FP.i2d (own_v0_3 p4)) (FP.i2d (-(own_v0_4 p4))) (own_v8a_1 (FP.i2d (p0 &&& (1048575 : Int32))) (FP.i2d (own_v0_2 p4))))))])) _
      refine Xk67.ldc2DoubleC hx hown (mvT hZ (own_W hw 123 rfl)) (g := (mkF m 293 (own_L86 p0 p1 p2 p3 p4 p5 (p0 &&& (1048575 : Int32)) (p1 &&& (1048575 : Int32)) (own_v0_0 p2) (own_v0_1 p3) (own_v0_2 p4) (own_v0_3 p4) (own_v0_4 p4) (p4 >>> ((11 : Int32) &&& 31)) (own_v0_6 p5) tt (own_v0_13 p0 p1 p3 p4) (own_v0_11 p4) (own_v0_7 p0 p4) (own_v0_9 p0 p1 p4)) [(.double (own_r7c_2 (FP.i2d (p4 >>> ((11 : Int32) &&& 31))) (own_v8a_1 (FP.i2d (p0 &&& (1048575 : Int32))) (FP.i2d (own_v0_2 p4))) (FP.i2d (own_v0_1 p3)) (own_v8b_2 (FP.i2d (p1 &&& (1048575 : Int32))) (FP.i2d (own_v0_3 p4)) (FP.i2d (-(own_v0_4 p4))) (own_v8a_1 (FP.i2d (p0 &&& (1048575 : Int32))) (FP.i2d (own_v0_2 p4))))))])) rfl (hb hby at_293) _ ?_
      refine XS.dmulS Xk67.here hx rfl (hb hby at_296) rfl nn296_4 rfl ?_
      refine XT.lload Xk67.here hx rfl (hb hby at_297) rfl ?_
      refine XS.l2dS Xk67.here hx rfl (hb hby at_299) rfl rfl ?_
      refine XS.dcmpS Xk67.here hx rfl (hb hby at_300) rfl rfl ?_
      refine XS.ifNo Xk67.here hx rfl (hb hby at_301) rfl (XT.i0_ne_f hc301_4) ?_
      refine XS.iconst Xk67.here hx rfl (hb hby at_304) ?_
      refine XS.goto Xk67.here hx rfl (pc0 := 305) (pc' := 309) rfl (hb hby at_305) (by decide) (by decide) ?_
      show Steps p.tables e below (Tk67.setTop (mkF m 309 (own_L86 p0 p1 p2 p3 p4 p5 (p0 &&& (1048575 : Int32)) (p1 &&& (1048575 : Int32)) (own_v0_0 p2) (own_v0_1 p3) (own_v0_2 p4) (own_v0_3 p4) (own_v0_4 p4) (p4 >>> ((11 : Int32) &&& 31)) (own_v0_6 p5) tt (own_v0_13 p0 p1 p3 p4) (own_v0_11 p4) (own_v0_7 p0 p4) (own_v0_9 p0 p1 p4)) [(.int 1)])) _
      exact retN Xk67 hx (t := .boolean) Bd.returns (by simp) (hb hby at_309) hr
    · show own_Q0 Z p0 p1 p2 p3 p4 p5 h0 n0 _ Tk67.heap _
      exact ⟨rfl, Nk67⟩
theorem own_pick_eq (x : UInt64) : Native.java_lang_Math.nans.pick64 true (0 : UInt64) x = (match FP.dcmp (0 : UInt64) x with | some .lt => x | some .gt => 0 | _ => if ((0 : UInt64) >>> 63 == 1) == true then x else 0) := rfl
/-- max(0, x) of an x that isn't below 0 -/
theorem own_pick {x : UInt64} (h : Jvm.FP.Core.DFin x) (h0 : 0 ≤ own_zv x) : (own_zv x = 0 ∧ Native.java_lang_Math.nans.pick64 true (0 : UInt64) x = 0) ∨ (own_zv x ≠ 0 ∧ Native.java_lang_Math.nans.pick64 true (0 : UInt64) x = x) := by
  have d := own_dcmp own_is_0.1.ne_nan h.ne_nan
  rw [own_is_0.2, Int.zero_mul] at d
  by_cases z : own_zv x = 0
  · refine Or.inl ⟨z, ?_⟩
    rw [z, Jvm.FP.Core.compare_self_int] at d
    rw [own_pick_eq, d]; rfl
  · refine Or.inr ⟨z, ?_⟩
    have : compare (0 : Int) (own_zv x) = .lt := by
      rw [Jvm.FP.Core.compare_ite, if_pos (by omega)]
    rw [this] at d
    rw [own_pick_eq, d]
theorem own_sub0 (x : Int32) : FP.dsub (FP.i2d x) (0 : UInt64) = FP.i2d x := by
  have hx := own_i2d x
  by_cases z : x.toInt = 0
  · have : x = 0 := Int32.toInt_inj.mp (by rw [z]; decide)
    subst this; decide +kernel
  · have h := own_exactV (own_dsub_rnd hx.1 own_is_0.1) hx.1 (by rw [own_is_0.2]; simp)
    refine own_bits h.1 hx.1 h.2 ?_
    rw [hx.2]; intro q; rcases Int.mul_eq_zero.mp q with q | q
    · exact z q
    · have := own_U_pos; omega
theorem own_fe : Jvm.FP.Core.DFin (13695778570484766357 : UInt64) := by rw [FP.Core.fin_bits]; decide
theorem own_ze : own_zv (13695778570484766357 : UInt64) ≤ 0 := by decide +kernel
theorem own_feas {a : UInt64} (h : Jvm.FP.Core.DFin a) (h0 : 0 ≤ own_zv a) : ¬ ((cmpValue (FP.dcmp a (13695778570484766357 : UInt64)) .g) < (0 : Int32)) := own_cmp_ge h.ne_nan own_fe.ne_nan (Int.le_trans own_ze h0) _
theorem own_r20 (x : Int32) : 0 ≤ (x &&& (1048575 : Int32)).toInt ∧ (x &&& (1048575 : Int32)).toInt < 1048576 := by
  rw [Jvm.Kit.i32_mask x (1048575 : Int32) (k := 20) (by decide) (by decide)]; omega
theorem own_c21 (x : Int32) : -1048576 ≤ (x >>> ((11 : Int32) &&& 31)).toInt ∧ (x >>> ((11 : Int32) &&& 31)).toInt < 1048576 := by
  rw [Jvm.Kit.i32_shr x ((11 : Int32) &&& 31) (k := 11) (by decide)]
  have l := x.toInt_lt; have g := x.le_toInt; omega
theorem own_m4 (x : Int32) : 0 ≤ (own_v0_4 x).toInt ∧ (own_v0_4 x).toInt ≤ 3 := by
  unfold own_v0_4; rw [Jvm.Kit.i32_mask _ (3 : Int32) (k := 2) (by decide) (by decide)]; omega
theorem own_pw (y : Int32) : ∃ i : Nat, i ≤ 3 ∧ ((1 : Int32) <<< ((y &&& (3 : Int32)) &&& 31)).toInt = ((2 ^ i : Nat) : Int) ∧ ((64 : Int32) / ((1 : Int32) <<< ((y &&& (3 : Int32)) &&& 31))).toInt = 8 * ((2 ^ (3 - i) : Nat) : Int) := by
  rcases own_m3 y with h | h | h | h <;> rw [h]
  · exact ⟨0, by decide, by decide, by decide⟩
  · exact ⟨1, by decide, by decide, by decide⟩
  · exact ⟨2, by decide, by decide, by decide⟩
  · exact ⟨3, by decide, by decide, by decide⟩
theorem own_dp {c : Int} {i j : Nat} {a b : UInt64} (hi : i ≤ 3) (ha : own_at c (j + 3) a) (hb : own_is ((2 ^ i : Nat) : Int) b) (h : c.natAbs < 2 ^ 53) (hj : j ≤ 2000) : own_at (c * ((2 ^ (3 - i) : Nat) : Int)) j (FP.ddiv a b) := by
  have e : j + 3 = (j + (3 - i)) + i := by omega
  rw [e] at ha
  have hb' : own_at 1 (1074 + i) b := own_at_dn (by rw [Int.one_mul]; exact own_at_is hb)
  exact own_at_up (own_at_divp ha hb' h (by omega))
theorem own_at_0 (j : Nat) : own_at 0 j (0 : UInt64) := ⟨own_is_0.1, by rw [own_is_0.2, Int.zero_mul, Int.zero_mul]⟩
theorem own_pick_at {c : Int} {j : Nat} {x : UInt64} (h : own_at c j x) (h0 : 0 ≤ c) : own_at c j (Native.java_lang_Math.nans.pick64 true (0 : UInt64) x) ∧ 0 ≤ own_zv x := by
  have z : 0 ≤ own_zv x := by rw [h.2]; exact Int.mul_nonneg h0 (Int.natCast_nonneg _)
  refine ⟨?_, z⟩
  rcases own_pick h.1 z with ⟨z', e⟩ | ⟨z', e⟩
  · rw [e]; exact ⟨own_is_0.1, by rw [← h.2, z', own_is_0.2, Int.zero_mul]⟩
  · rw [e]; exact h
theorem own_p8 {i : Nat} (hi : i ≤ 3) : 1 ≤ ((2 ^ (3 - i) : Nat) : Int) ∧ ((2 ^ (3 - i) : Nat) : Int) ≤ 8 := by
  rcases (show i = 0 ∨ i = 1 ∨ i = 2 ∨ i = 3 by omega) with rfl | rfl | rfl | rfl <;> decide
theorem own_ab2 {x y : Int} {X Y : Nat} (hx : x.natAbs ≤ X) (hy : y.natAbs ≤ Y) : (x * y).natAbs ≤ X * Y := by rw [Int.natAbs_mul]; exact Nat.mul_le_mul hx hy
section M2
variable (p0 p1 p2 p3 p4 : Int32)
/-- what stands of one input: B0 and B1, the start levels in eighths and 64ths -/
def own_D (B0 B1 : Int) : Prop :=
  (own_at B0 1071 (own_v8a_0 (FP.i2d (p0 &&& (1048575 : Int32))) (FP.i2d (own_v0_2 p4)))) ∧
  (0 ≤ B0) ∧
  (B0 ≤ 8388608) ∧
  (own_at (-(own_v0_4 p4).toInt * B0) 1071 (FP.dmul (FP.i2d (-(own_v0_4 p4))) (own_v8a_1 (FP.i2d (p0 &&& (1048575 : Int32))) (FP.i2d (own_v0_2 p4))))) ∧
  (own_at (-(own_v0_4 p4).toInt * B0) 1071 (own_v8b_0 (FP.i2d (-(own_v0_4 p4))) (own_v8a_1 (FP.i2d (p0 &&& (1048575 : Int32))) (FP.i2d (own_v0_2 p4))))) ∧
  (own_at (8 * (p1 &&& (1048575 : Int32)).toInt + (own_v0_4 p4).toInt * B0) 1071 (FP.dsub (FP.i2d (p1 &&& (1048575 : Int32))) (own_v8b_0 (FP.i2d (-(own_v0_4 p4))) (own_v8a_1 (FP.i2d (p0 &&& (1048575 : Int32))) (FP.i2d (own_v0_2 p4)))))) ∧
  (own_at B1 1068 (own_v8b_1 (FP.i2d (p1 &&& (1048575 : Int32))) (FP.i2d (own_v0_3 p4)) (FP.i2d (-(own_v0_4 p4))) (own_v8a_1 (FP.i2d (p0 &&& (1048575 : Int32))) (FP.i2d (own_v0_2 p4))))) ∧
  (0 ≤ B1) ∧
  (B1 ≤ 268435456) ∧
  ((own_v0_7 p0 p4).toInt = 8 * B0) ∧
  ((own_v0_9 p0 p1 p4).toInt = B1)
theorem own_all4 : ∃ B0 B1, own_D p0 p1 p4 B0 B1 := by
  obtain ⟨i, hi, s0, q0⟩ := own_pw p4
  obtain ⟨k, hk, s1, q1⟩ := own_pw (XT.ushr p4 (2 : Int32))
  have h0 := own_r20 p0; have h1 := own_r20 p1; have hm := own_m4 p4
  have g0 := own_p8 hi; have g1 := own_p8 hk
  have hs0 : own_is ((2 ^ i : Nat) : Int) (FP.i2d (own_v0_2 p4)) := s0 ▸ own_is_i2d (own_v0_2 p4)
  have hs1 : own_is ((2 ^ k : Nat) : Int) (FP.i2d (own_v0_3 p4)) := s1 ▸ own_is_i2d (own_v0_3 p4)
  have hr0 := own_at_is (own_is_i2d (p0 &&& (1048575 : Int32)))
  have hr1 := own_at_is (own_is_i2d (p1 &&& (1048575 : Int32)))
  have nm : (-(own_v0_4 p4)).toInt = -(own_v0_4 p4).toInt := Jvm.Kit.i32_neg (by omega)
  have hn : own_at (-(own_v0_4 p4).toInt) 1074 (FP.i2d (-(own_v0_4 p4))) := nm ▸ own_at_is (own_is_i2d (-(own_v0_4 p4)))
  have e7 : (own_v0_7 p0 p4).toInt = (p0 &&& (1048575 : Int32)).toInt * (8 * ((2 ^ (3 - i) : Nat) : Int)) := by
    have a := Jvm.Kit.i64_of_i32 (p0 &&& (1048575 : Int32))
    have b : ((64 : Int32) / (own_v0_2 p4)).toInt64.toInt = 8 * ((2 ^ (3 - i) : Nat) : Int) := (Jvm.Kit.i64_of_i32 _).trans q0
    have w := own_ab2 (x := (p0 &&& (1048575 : Int32)).toInt) (y := 8 * ((2 ^ (3 - i) : Nat) : Int)) (X := 1048576) (Y := 64) (by omega) (by omega)
    unfold own_v0_7
    rw [Jvm.Kit.i64_mul (by rw [a, b]; omega) (by rw [a, b]; omega), a, b]
  have e9 : (own_v0_9 p0 p1 p4).toInt = (8 * (p1 &&& (1048575 : Int32)).toInt + (own_v0_4 p4).toInt * ((p0 &&& (1048575 : Int32)).toInt * ((2 ^ (3 - i) : Nat) : Int))) * ((2 ^ (3 - k) : Nat) : Int) := by
    have a := Jvm.Kit.i64_of_i32 (p0 &&& (1048575 : Int32))
    have a1 := Jvm.Kit.i64_of_i32 (p1 &&& (1048575 : Int32))
    have am := Jvm.Kit.i64_of_i32 (own_v0_4 p4)
    have as1 : (own_v0_3 p4).toInt64.toInt = ((2 ^ k : Nat) : Int) := (Jvm.Kit.i64_of_i32 _).trans s1
    have b : ((64 : Int32) / (own_v0_2 p4)).toInt64.toInt = 8 * ((2 ^ (3 - i) : Nat) : Int) := (Jvm.Kit.i64_of_i32 _).trans q0
    have e64 : (64 : Int64).toInt = 64 := by decide
    have w1 : ((p1 &&& (1048575 : Int32)).toInt64 * (64 : Int64)).toInt = (p1 &&& (1048575 : Int32)).toInt * 64 := by rw [Jvm.Kit.i64_mul (by rw [a1, e64]; omega) (by rw [a1, e64]; omega), a1, e64]
    have v2 := own_ab2 (x := (own_v0_4 p4).toInt) (y := (p0 &&& (1048575 : Int32)).toInt) (X := 3) (Y := 1048576) (by omega) (by omega)
    have n2 : 0 ≤ (own_v0_4 p4).toInt * (p0 &&& (1048575 : Int32)).toInt := Int.mul_nonneg hm.1 h0.1
    have w2 : ((own_v0_4 p4).toInt64 * (p0 &&& (1048575 : Int32)).toInt64).toInt = (own_v0_4 p4).toInt * (p0 &&& (1048575 : Int32)).toInt := by rw [Jvm.Kit.i64_mul (by rw [am, a]; omega) (by rw [am, a]; omega), am, a]
    have v3 := own_ab2 (x := (own_v0_4 p4).toInt * (p0 &&& (1048575 : Int32)).toInt) (y := 8 * ((2 ^ (3 - i) : Nat) : Int)) (X := 3145728) (Y := 64) (by omega) (by omega)
    have n3 : 0 ≤ (own_v0_4 p4).toInt * (p0 &&& (1048575 : Int32)).toInt * (8 * ((2 ^ (3 - i) : Nat) : Int)) := Int.mul_nonneg n2 (by omega)
    have w3 : (((own_v0_4 p4).toInt64 * (p0 &&& (1048575 : Int32)).toInt64) * ((64 : Int32) / (own_v0_2 p4)).toInt64).toInt = (own_v0_4 p4).toInt * (p0 &&& (1048575 : Int32)).toInt * (8 * ((2 ^ (3 - i) : Nat) : Int)) := by rw [Jvm.Kit.i64_mul (by rw [w2, b]; omega) (by rw [w2, b]; omega), w2, b]
    have w4 := Jvm.Kit.i64_add (x := (p1 &&& (1048575 : Int32)).toInt64 * (64 : Int64)) (y := ((own_v0_4 p4).toInt64 * (p0 &&& (1048575 : Int32)).toInt64) * ((64 : Int32) / (own_v0_2 p4)).toInt64) (by rw [w1, w3]; omega) (by rw [w1, w3]; omega)
    rw [w1, w3] at w4
    have kz : ((2 ^ k : Nat) : Int) ≠ -1 := fun q => by
      have w := Int.natCast_nonneg (2 ^ k); rw [q] at w; exact absurd w (by decide)
    unfold own_v0_9
    rw [Jvm.Kit.i64_div (by rw [as1]; exact fun q => kz q.2), w4, as1]
    have e8 : (own_v0_4 p4).toInt * (p0 &&& (1048575 : Int32)).toInt * (8 * ((2 ^ (3 - i) : Nat) : Int)) = 8 * ((own_v0_4 p4).toInt * ((p0 &&& (1048575 : Int32)).toInt * ((2 ^ (3 - i) : Nat) : Int))) := by simp only [Int.mul_assoc, Int.mul_comm, Int.mul_left_comm]
    rw [e8] at n3 ⊢
    generalize (own_v0_4 p4).toInt * ((p0 &&& (1048575 : Int32)).toInt * ((2 ^ (3 - i) : Nat) : Int)) = Y at n3 ⊢
    rw [Int.tdiv_eq_ediv_of_nonneg (by omega)]
    rcases (show k = 0 ∨ k = 1 ∨ k = 2 ∨ k = 3 by omega) with rfl | rfl | rfl | rfl
    · show (_ + _) / (1 : Int) = _ * (8 : Int); omega
    · show (_ + _) / (2 : Int) = _ * (4 : Int); omega
    · show (_ + _) / (4 : Int) = _ * (2 : Int); omega
    · show (_ + _) / (8 : Int) = _ * (1 : Int); omega
  have z0 : own_at ((p0 &&& (1048575 : Int32)).toInt * ((2 ^ (3 - i) : Nat) : Int)) 1071 (own_v8a_0 (FP.i2d (p0 &&& (1048575 : Int32))) (FP.i2d (own_v0_2 p4))) := by
    unfold own_v8a_0; rw [own_sub0]
    exact own_dp hi hr0 hs0 (by omega) (by decide)
  have n0 : 0 ≤ (p0 &&& (1048575 : Int32)).toInt * ((2 ^ (3 - i) : Nat) : Int) := Int.mul_nonneg h0.1 (by omega)
  have m0 := own_ab2 (x := (p0 &&& (1048575 : Int32)).toInt) (y := ((2 ^ (3 - i) : Nat) : Int)) (X := 1048576) (Y := 8) (by omega) (by omega)
  have e7' : (own_v0_7 p0 p4).toInt = 8 * ((p0 &&& (1048575 : Int32)).toInt * ((2 ^ (3 - i) : Nat) : Int)) := by rw [e7]; simp only [Int.mul_assoc, Int.mul_comm, Int.mul_left_comm]
  clear e7
  generalize hB0 : (p0 &&& (1048575 : Int32)).toInt * ((2 ^ (3 - i) : Nat) : Int) = B0 at *
  have u0 : B0 ≤ 8388608 := by omega
  have v1 := own_ab2 (x := -(own_v0_4 p4).toInt) (y := B0) (X := 3) (Y := 8388608) (by omega) (by omega)
  have pk := (own_pick_at z0 n0).1
  have pk' : own_at B0 1071 (own_v8a_1 (FP.i2d (p0 &&& (1048575 : Int32))) (FP.i2d (own_v0_2 p4))) := pk
  have pr := own_at_mul hn pk' 1071 (by decide) (by omega) (by decide)
  have me : own_at (-(own_v0_4 p4).toInt * B0) 1071 (own_v8b_0 (FP.i2d (-(own_v0_4 p4))) (own_v8a_1 (FP.i2d (p0 &&& (1048575 : Int32))) (FP.i2d (own_v0_2 p4)))) := by
    have := own_at_add (own_at_0 1071) pr (by omega) (by decide)
    rw [Int.zero_add] at this; exact this
  have x8 : own_at (8 * (p1 &&& (1048575 : Int32)).toInt) 1071 (FP.i2d (p1 &&& (1048575 : Int32))) := by
    have := own_at_up (c := (p1 &&& (1048575 : Int32)).toInt) (j := 1071) (i := 3) hr1
    rw [Int.mul_comm] at this; exact this
  have nmul : -(own_v0_4 p4).toInt * B0 = -((own_v0_4 p4).toInt * B0) := Int.neg_mul _ _
  have nn : 0 ≤ (own_v0_4 p4).toInt * B0 := Int.mul_nonneg hm.1 n0
  rw [nmul] at v1
  have di : own_at (8 * (p1 &&& (1048575 : Int32)).toInt + (own_v0_4 p4).toInt * B0) 1071 (FP.dsub (FP.i2d (p1 &&& (1048575 : Int32))) (own_v8b_0 (FP.i2d (-(own_v0_4 p4))) (own_v8a_1 (FP.i2d (p0 &&& (1048575 : Int32))) (FP.i2d (own_v0_2 p4))))) := by
    have := own_at_sub x8 me (by rw [nmul]; omega) (by decide)
    rw [nmul, Int.sub_neg] at this; exact this
  have b1 := own_dp hk di hs1 (by omega) (by decide)
  have v5 := own_ab2 (x := 8 * (p1 &&& (1048575 : Int32)).toInt + (own_v0_4 p4).toInt * B0) (y := ((2 ^ (3 - k) : Nat) : Int)) (X := 33554432) (Y := 8) (by omega) (by omega)
  exact ⟨B0, _, ⟨z0, n0, u0, pr, me, di, b1, Int.mul_nonneg (by omega) (by omega), by omega, e7', e9⟩⟩
theorem own_k64 : own_at 1 1080 (4634204016564240384 : UInt64) := ⟨by rw [FP.Core.fin_bits]; decide, by decide +kernel⟩
/-- the objective of one row and of two, for a first cost C (21 bits) -/
theorem own_o1 {B0 B1 : Int} (D : own_D p0 p1 p4 B0 B1) {c : UInt64} {C : Int} (hc : own_is C c) (l : -1048576 ≤ C) (u : C < 1048576) :
    own_at (C * B0) 1071 (FP.dmul c (own_v8a_1 (FP.i2d (p0 &&& (1048575 : Int32))) (FP.i2d (own_v0_2 p4)))) ∧ own_at (C * B0) 1071 (FP.dadd (0 : UInt64) (FP.dmul c (own_v8a_1 (FP.i2d (p0 &&& (1048575 : Int32))) (FP.i2d (own_v0_2 p4))))) ∧ (C * B0).natAbs ≤ 8796093022208 := by
  have l0 := D.2.1; have u0 := D.2.2.1
  have v := own_ab2 (x := C) (y := B0) (X := 1048576) (Y := 8388608) (by omega) (by omega)
  have pk : own_at B0 1071 (own_v8a_1 (FP.i2d (p0 &&& (1048575 : Int32))) (FP.i2d (own_v0_2 p4))) := (own_pick_at D.1 D.2.1).1
  have m := own_at_mul (own_at_is hc) pk 1071 (by decide) (by omega) (by decide)
  have s := own_at_add (own_at_0 1071) m (by omega) (by decide)
  rw [Int.zero_add] at s
  exact ⟨m, s, by omega⟩
theorem own_o2 {B0 B1 : Int} (D : own_D p0 p1 p4 B0 B1) {c : UInt64} {C : Int} (hc : own_is C c) (l : -1048576 ≤ C) (u : C < 1048576) :
    own_at ((own_v0_1 p3).toInt * B1) 1068 (FP.dmul (FP.i2d (own_v0_1 p3)) (own_v8b_2 (FP.i2d (p1 &&& (1048575 : Int32))) (FP.i2d (own_v0_3 p4)) (FP.i2d (-(own_v0_4 p4))) (own_v8a_1 (FP.i2d (p0 &&& (1048575 : Int32))) (FP.i2d (own_v0_2 p4))))) ∧
    own_at (8 * (C * B0) + (own_v0_1 p3).toInt * B1) 1068 (own_r7c_2 c (own_v8a_1 (FP.i2d (p0 &&& (1048575 : Int32))) (FP.i2d (own_v0_2 p4))) (FP.i2d (own_v0_1 p3)) (own_v8b_2 (FP.i2d (p1 &&& (1048575 : Int32))) (FP.i2d (own_v0_3 p4)) (FP.i2d (-(own_v0_4 p4))) (own_v8a_1 (FP.i2d (p0 &&& (1048575 : Int32))) (FP.i2d (own_v0_2 p4))))) ∧ ((own_v0_1 p3).toInt * B1).natAbs ≤ 281474976710656 := by
  obtain ⟨m0, s0, w0⟩ := own_o1 p0 p1 p4 D hc l u
  have hc1 : -1048576 ≤ (own_v0_1 p3).toInt ∧ (own_v0_1 p3).toInt < 1048576 := own_c21 _
  have l1 := D.2.2.2.2.2.2.2.1; have u1 := D.2.2.2.2.2.2.2.2.1
  have v := own_ab2 (x := (own_v0_1 p3).toInt) (y := B1) (X := 1048576) (Y := 268435456) (by omega) (by omega)
  have pk : own_at B1 1068 (own_v8b_2 (FP.i2d (p1 &&& (1048575 : Int32))) (FP.i2d (own_v0_3 p4)) (FP.i2d (-(own_v0_4 p4))) (own_v8a_1 (FP.i2d (p0 &&& (1048575 : Int32))) (FP.i2d (own_v0_2 p4)))) := (own_pick_at D.2.2.2.2.2.2.1 D.2.2.2.2.2.2.2.1).1
  have m := own_at_mul (own_at_is (own_is_i2d (own_v0_1 p3))) pk 1068 (by decide) (by omega) (by decide)
  have s0' := own_at_up (c := C * B0) (j := 1068) (i := 3) s0
  rw [Int.mul_comm] at s0'
  exact ⟨m, own_at_add s0' m (by omega) (by decide), by omega⟩
theorem own_t64 {c : Int} {j : Nat} {a : UInt64} (h : own_at c j a) (hj : j + 6 = 1074) (l : c.natAbs < 9007199254740992) : own_at c 1074 (FP.dmul a (4634204016564240384 : UInt64)) := by
  have := own_at_mul h own_k64 (j + 6) (by omega) (by rw [Int.mul_one]; omega) (by omega)
  rw [Int.mul_one, hj] at this; exact this
theorem own_t64' {c : Int} {a : UInt64} (h : own_at c 1071 a) (l : c.natAbs ≤ 8796093022208) : own_at (8 * c) 1074 (FP.dmul a (4634204016564240384 : UInt64)) := by
  have := own_at_up (c := c) (j := 1068) (i := 3) h
  rw [Int.mul_comm] at this
  exact own_t64 this rfl (by omega)
theorem own_is_of {x : Int64} {c : Int} (e : x.toInt = c) (l : c.natAbs ≤ 9007199254740992) : own_at c 1074 (FP.l2d x) := by
  subst e; exact own_at_is (own_is_l2d l)
theorem own_rf1 {B0 B1 : Int} (D : own_D p0 p1 p4 B0 B1) {x : Int64} (l : -1048576 ≤ x.toInt) (u : x.toInt < 1048576) : (x * own_v0_7 p0 p4).toInt = 8 * (x.toInt * B0) := by
  have l0 := D.2.1; have u0 := D.2.2.1; have r0 := D.2.2.2.2.2.2.2.2.2.1
  have v := own_ab2 (x := x.toInt) (y := 8 * B0) (X := 1048576) (Y := 67108864) (by omega) (by omega)
  rw [Jvm.Kit.i64_mul (by rw [r0]; omega) (by rw [r0]; omega), r0]; simp only [Int.mul_assoc, Int.mul_comm, Int.mul_left_comm]
theorem own_rf2 {B0 B1 : Int} (D : own_D p0 p1 p4 B0 B1) {y : Int64} {c : Int} (e : y.toInt = 8 * c) (l : c.natAbs ≤ 8796093022208) : (y + (own_v0_1 p3).toInt64 * own_v0_9 p0 p1 p4).toInt = 8 * c + (own_v0_1 p3).toInt * B1 := by
  have hc1 : -1048576 ≤ (own_v0_1 p3).toInt ∧ (own_v0_1 p3).toInt < 1048576 := own_c21 _
  have l1 := D.2.2.2.2.2.2.2.1; have u1 := D.2.2.2.2.2.2.2.2.1; have r1 := D.2.2.2.2.2.2.2.2.2.2
  have a := Jvm.Kit.i64_of_i32 (own_v0_1 p3)
  have v := own_ab2 (x := (own_v0_1 p3).toInt) (y := B1) (X := 1048576) (Y := 268435456) (by omega) (by omega)
  have m : ((own_v0_1 p3).toInt64 * own_v0_9 p0 p1 p4).toInt = (own_v0_1 p3).toInt * B1 := by rw [Jvm.Kit.i64_mul (by rw [a, r1]; omega) (by rw [a, r1]; omega), a, r1]
  rw [Jvm.Kit.i64_add (by rw [e, m]; omega) (by rw [e, m]; omega), e, m]
theorem own_cc : -1048576 ≤ (own_v0_0 p2).toInt ∧ (own_v0_0 p2).toInt < 1048576 := own_c21 _
end M2
theorem own_x_nn296 (p0 : Int32) (p1 : Int32) (p2 : Int32) (p3 : Int32) (p4 : Int32) (p5 : Int32) : NoNaN64 (FP.dmul (0 : UInt64) (4634204016564240384 : UInt64)) := own_at_nn (own_t64' (own_at_0 1071) (by decide))
theorem own_x_hc301 (p0 : Int32) (p1 : Int32) (p2 : Int32) (p3 : Int32) (p4 : Int32) (p5 : Int32) : (cmpValue (FP.dcmp (FP.dmul (0 : UInt64) (4634204016564240384 : UInt64)) (FP.l2d (0 : Int64))) .l) = (0 : Int32) := own_at_eq (own_t64' (own_at_0 1071) (by decide)) (own_is_of (c := 8 * 0) (by decide) (by decide)) _
theorem own_x_c138_nn249 (p0 : Int32) (p1 : Int32) (p2 : Int32) (p3 : Int32) (p4 : Int32) (p5 : Int32) : NoNaN64 (FP.dsub (FP.i2d (p0 &&& (1048575 : Int32))) (0 : UInt64)) := by
  rw [own_sub0]; exact own_fin_nn (own_i2d _).1
theorem own_x_c138_nn252 (p0 : Int32) (p1 : Int32) (p2 : Int32) (p3 : Int32) (p4 : Int32) (p5 : Int32) : NoNaN64 (FP.ddiv (FP.dsub (FP.i2d (p0 &&& (1048575 : Int32))) (0 : UInt64)) (FP.i2d (own_v0_2 p4))) := by
  obtain ⟨B0, B1, D⟩ := own_all4 p0 p1 p4
  exact own_at_nn D.1
theorem own_x_c138_hc261 (p0 : Int32) (p1 : Int32) (p2 : Int32) (p3 : Int32) (p4 : Int32) (p5 : Int32) : ¬ ((cmpValue (FP.dcmp (own_v8a_0 (FP.i2d (p0 &&& (1048575 : Int32))) (FP.i2d (own_v0_2 p4))) (13695778570484766357 : UInt64)) .g) < (0 : Int32)) := by
  obtain ⟨B0, B1, D⟩ := own_all4 p0 p1 p4
  exact own_feas D.1.1 (own_pick_at D.1 D.2.1).2
theorem own_x_c138_c318_c252_c11_hc19 (p0 : Int32) (p1 : Int32) (p2 : Int32) (p3 : Int32) (p4 : Int32) (p5 : Int32) : ¬ ((cmpValue (FP.dcmp (0 : UInt64) (13695778570484766357 : UInt64)) .g) < (0 : Int32)) := own_feas own_is_0.1 (by rw [own_is_0.2, Int.zero_mul]; exact Int.le_refl _)
theorem own_x_c138_nx349 (p0 : Int32) (p1 : Int32) (p2 : Int32) (p3 : Int32) (p4 : Int32) (p5 : Int32) : NoNaN64 (0 : UInt64) := own_fin_nn own_is_0.1
theorem own_x_c138_ny349 (p0 : Int32) (p1 : Int32) (p2 : Int32) (p3 : Int32) (p4 : Int32) (p5 : Int32) : NoNaN64 (own_v8a_0 (FP.i2d (p0 &&& (1048575 : Int32))) (FP.i2d (own_v0_2 p4))) := by
  obtain ⟨B0, B1, D⟩ := own_all4 p0 p1 p4
  exact own_at_nn D.1
theorem own_x_hz198 (p0 : Int32) (p1 : Int32) (p2 : Int32) (p3 : Int32) (p4 : Int32) (p5 : Int32) : (own_v0_2 p4) ≠ 0 := by
  obtain ⟨i, hi, s0, q0⟩ := own_pw p4
  intro q
  have : (own_v0_2 p4).toInt = ((2 ^ i : Nat) : Int) := s0
  rw [q] at this
  have := Nat.two_pow_pos i
  have e : (0 : Int32).toInt = 0 := by decide
  omega
theorem own_x_c290_nn30 (p0 : Int32) (p1 : Int32) (p2 : Int32) (p3 : Int32) (p4 : Int32) (p5 : Int32) : NoNaN64 (FP.dmul (FP.i2d (own_v0_0 p2)) (own_v8a_1 (FP.i2d (p0 &&& (1048575 : Int32))) (FP.i2d (own_v0_2 p4)))) := by
  obtain ⟨B0, B1, D⟩ := own_all4 p0 p1 p4
  exact own_at_nn (own_o1 p0 p1 p4 D (own_is_i2d (own_v0_0 p2)) (own_cc p2).1 (own_cc p2).2).1
theorem own_x_c290_nn31 (p0 : Int32) (p1 : Int32) (p2 : Int32) (p3 : Int32) (p4 : Int32) (p5 : Int32) : NoNaN64 (FP.dadd (0 : UInt64) (FP.dmul (FP.i2d (own_v0_0 p2)) (own_v8a_1 (FP.i2d (p0 &&& (1048575 : Int32))) (FP.i2d (own_v0_2 p4))))) := by
  obtain ⟨B0, B1, D⟩ := own_all4 p0 p1 p4
  exact own_at_nn (own_o1 p0 p1 p4 D (own_is_i2d (own_v0_0 p2)) (own_cc p2).1 (own_cc p2).2).2.1
theorem own_x_nn296_2 (p0 : Int32) (p1 : Int32) (p2 : Int32) (p3 : Int32) (p4 : Int32) (p5 : Int32) : NoNaN64 (FP.dmul (own_v7b_0 (FP.i2d (own_v0_0 p2)) (own_v8a_1 (FP.i2d (p0 &&& (1048575 : Int32))) (FP.i2d (own_v0_2 p4)))) (4634204016564240384 : UInt64)) := by
  obtain ⟨B0, B1, D⟩ := own_all4 p0 p1 p4
  have o := own_o1 p0 p1 p4 D (own_is_i2d (own_v0_0 p2)) (own_cc p2).1 (own_cc p2).2
  exact own_at_nn (own_t64' o.2.1 o.2.2)
theorem own_x_hc301_2 (p0 : Int32) (p1 : Int32) (p2 : Int32) (p3 : Int32) (p4 : Int32) (p5 : Int32) : (cmpValue (FP.dcmp (FP.dmul (own_v7b_0 (FP.i2d (own_v0_0 p2)) (own_v8a_1 (FP.i2d (p0 &&& (1048575 : Int32))) (FP.i2d (own_v0_2 p4)))) (4634204016564240384 : UInt64)) (FP.l2d (own_v0_8 p0 p2 p4))) .l) = (0 : Int32) := by
  obtain ⟨B0, B1, D⟩ := own_all4 p0 p1 p4
  have o := own_o1 p0 p1 p4 D (own_is_i2d (own_v0_0 p2)) (own_cc p2).1 (own_cc p2).2
  have a := Jvm.Kit.i64_of_i32 (own_v0_0 p2)
  have r := own_rf1 p0 p1 p4 D (x := (own_v0_0 p2).toInt64) (by rw [a]; exact (own_cc p2).1) (by rw [a]; exact (own_cc p2).2)
  rw [a] at r
  have w := o.2.2
  exact own_at_eq (own_t64' o.2.1 o.2.2) (own_is_of (x := own_v0_8 p0 p2 p4) r (by omega)) _
theorem own_x_c245_nn236 (p0 : Int32) (p1 : Int32) (p2 : Int32) (p3 : Int32) (p4 : Int32) (p5 : Int32) : NoNaN64 (FP.dmul (FP.i2d (-(own_v0_4 p4))) (own_v8a_1 (FP.i2d (p0 &&& (1048575 : Int32))) (FP.i2d (own_v0_2 p4)))) := by
  obtain ⟨B0, B1, D⟩ := own_all4 p0 p1 p4
  exact own_at_nn D.2.2.2.1
theorem own_x_c245_nn237 (p0 : Int32) (p1 : Int32) (p2 : Int32) (p3 : Int32) (p4 : Int32) (p5 : Int32) : NoNaN64 (FP.dadd (0 : UInt64) (FP.dmul (FP.i2d (-(own_v0_4 p4))) (own_v8a_1 (FP.i2d (p0 &&& (1048575 : Int32))) (FP.i2d (own_v0_2 p4))))) := by
  obtain ⟨B0, B1, D⟩ := own_all4 p0 p1 p4
  exact own_at_nn D.2.2.2.2.1
theorem own_x_c245_nn249 (p0 : Int32) (p1 : Int32) (p2 : Int32) (p3 : Int32) (p4 : Int32) (p5 : Int32) : NoNaN64 (FP.dsub (FP.i2d (p1 &&& (1048575 : Int32))) (own_v8b_0 (FP.i2d (-(own_v0_4 p4))) (own_v8a_1 (FP.i2d (p0 &&& (1048575 : Int32))) (FP.i2d (own_v0_2 p4))))) := by
  obtain ⟨B0, B1, D⟩ := own_all4 p0 p1 p4
  exact own_at_nn D.2.2.2.2.2.1
theorem own_x_c245_nn252 (p0 : Int32) (p1 : Int32) (p2 : Int32) (p3 : Int32) (p4 : Int32) (p5 : Int32) : NoNaN64 (FP.ddiv (FP.dsub (FP.i2d (p1 &&& (1048575 : Int32))) (own_v8b_0 (FP.i2d (-(own_v0_4 p4))) (own_v8a_1 (FP.i2d (p0 &&& (1048575 : Int32))) (FP.i2d (own_v0_2 p4))))) (FP.i2d (own_v0_3 p4))) := by
  obtain ⟨B0, B1, D⟩ := own_all4 p0 p1 p4
  exact own_at_nn D.2.2.2.2.2.2.1
theorem own_x_c245_hc261 (p0 : Int32) (p1 : Int32) (p2 : Int32) (p3 : Int32) (p4 : Int32) (p5 : Int32) : ¬ ((cmpValue (FP.dcmp (own_v8b_1 (FP.i2d (p1 &&& (1048575 : Int32))) (FP.i2d (own_v0_3 p4)) (FP.i2d (-(own_v0_4 p4))) (own_v8a_1 (FP.i2d (p0 &&& (1048575 : Int32))) (FP.i2d (own_v0_2 p4)))) (13695778570484766357 : UInt64)) .g) < (0 : Int32)) := by
  obtain ⟨B0, B1, D⟩ := own_all4 p0 p1 p4
  exact own_feas D.2.2.2.2.2.2.1.1 (own_pick_at D.2.2.2.2.2.2.1 D.2.2.2.2.2.2.2.1).2
theorem own_x_c245_ny349 (p0 : Int32) (p1 : Int32) (p2 : Int32) (p3 : Int32) (p4 : Int32) (p5 : Int32) : NoNaN64 (own_v8b_1 (FP.i2d (p1 &&& (1048575 : Int32))) (FP.i2d (own_v0_3 p4)) (FP.i2d (-(own_v0_4 p4))) (own_v8a_1 (FP.i2d (p0 &&& (1048575 : Int32))) (FP.i2d (own_v0_2 p4)))) := by
  obtain ⟨B0, B1, D⟩ := own_all4 p0 p1 p4
  exact own_at_nn D.2.2.2.2.2.2.1
theorem own_x_hz274 (p0 : Int32) (p1 : Int32) (p2 : Int32) (p3 : Int32) (p4 : Int32) (p5 : Int32) : (own_v0_3 p4).toInt64 ≠ 0 := by
  obtain ⟨i, hi, s0, q0⟩ := own_pw (XT.ushr p4 (2 : Int32))
  intro q
  have : (own_v0_3 p4).toInt64.toInt = ((2 ^ i : Nat) : Int) := (Jvm.Kit.i64_of_i32 _).trans s0
  rw [q] at this
  have := Nat.two_pow_pos i
  have e : (0 : Int64).toInt = 0 := by decide
  omega
theorem own_x_c290_nn30_2 (p0 : Int32) (p1 : Int32) (p2 : Int32) (p3 : Int32) (p4 : Int32) (p5 : Int32) : NoNaN64 (FP.dmul (FP.i2d (own_v0_1 p3)) (own_v8b_2 (FP.i2d (p1 &&& (1048575 : Int32))) (FP.i2d (own_v0_3 p4)) (FP.i2d (-(own_v0_4 p4))) (own_v8a_1 (FP.i2d (p0 &&& (1048575 : Int32))) (FP.i2d (own_v0_2 p4))))) := by
  obtain ⟨B0, B1, D⟩ := own_all4 p0 p1 p4
  exact own_at_nn (own_o2 p0 p1 p3 p4 D (own_is_i2d (p4 >>> ((11 : Int32) &&& 31))) (own_c21 p4).1 (own_c21 p4).2).1
theorem own_x_c290_nn31_2 (p0 : Int32) (p1 : Int32) (p2 : Int32) (p3 : Int32) (p4 : Int32) (p5 : Int32) : NoNaN64 (FP.dadd (own_v7c_0 (FP.i2d (own_v0_0 p2)) (own_v8a_1 (FP.i2d (p0 &&& (1048575 : Int32))) (FP.i2d (own_v0_2 p4)))) (FP.dmul (FP.i2d (own_v0_1 p3)) (own_v8b_2 (FP.i2d (p1 &&& (1048575 : Int32))) (FP.i2d (own_v0_3 p4)) (FP.i2d (-(own_v0_4 p4))) (own_v8a_1 (FP.i2d (p0 &&& (1048575 : Int32))) (FP.i2d (own_v0_2 p4)))))) := by
  obtain ⟨B0, B1, D⟩ := own_all4 p0 p1 p4
  exact own_at_nn (own_o2 p0 p1 p3 p4 D (own_is_i2d (own_v0_0 p2)) (own_cc p2).1 (own_cc p2).2).2.1
theorem own_x_nn296_3 (p0 : Int32) (p1 : Int32) (p2 : Int32) (p3 : Int32) (p4 : Int32) (p5 : Int32) : NoNaN64 (FP.dmul (own_r7c_2 (FP.i2d (own_v0_0 p2)) (own_v8a_1 (FP.i2d (p0 &&& (1048575 : Int32))) (FP.i2d (own_v0_2 p4))) (FP.i2d (own_v0_1 p3)) (own_v8b_2 (FP.i2d (p1 &&& (1048575 : Int32))) (FP.i2d (own_v0_3 p4)) (FP.i2d (-(own_v0_4 p4))) (own_v8a_1 (FP.i2d (p0 &&& (1048575 : Int32))) (FP.i2d (own_v0_2 p4))))) (4634204016564240384 : UInt64)) := by
  obtain ⟨B0, B1, D⟩ := own_all4 p0 p1 p4
  have o1 := (own_o1 p0 p1 p4 D (own_is_i2d (own_v0_0 p2)) (own_cc p2).1 (own_cc p2).2).2.2
  have o := own_o2 p0 p1 p3 p4 D (own_is_i2d (own_v0_0 p2)) (own_cc p2).1 (own_cc p2).2
  have w := o.2.2
  exact own_at_nn (own_t64 o.2.1 rfl (by omega))
theorem own_x_hc301_3 (p0 : Int32) (p1 : Int32) (p2 : Int32) (p3 : Int32) (p4 : Int32) (p5 : Int32) : (cmpValue (FP.dcmp (FP.dmul (own_r7c_2 (FP.i2d (own_v0_0 p2)) (own_v8a_1 (FP.i2d (p0 &&& (1048575 : Int32))) (FP.i2d (own_v0_2 p4))) (FP.i2d (own_v0_1 p3)) (own_v8b_2 (FP.i2d (p1 &&& (1048575 : Int32))) (FP.i2d (own_v0_3 p4)) (FP.i2d (-(own_v0_4 p4))) (own_v8a_1 (FP.i2d (p0 &&& (1048575 : Int32))) (FP.i2d (own_v0_2 p4))))) (4634204016564240384 : UInt64)) (FP.l2d (own_v0_10 p0 p1 p2 p3 p4))) .l) = (0 : Int32) := by
  obtain ⟨B0, B1, D⟩ := own_all4 p0 p1 p4
  have o1 := (own_o1 p0 p1 p4 D (own_is_i2d (own_v0_0 p2)) (own_cc p2).1 (own_cc p2).2).2.2
  have o := own_o2 p0 p1 p3 p4 D (own_is_i2d (own_v0_0 p2)) (own_cc p2).1 (own_cc p2).2
  have w := o.2.2
  have a := Jvm.Kit.i64_of_i32 (own_v0_0 p2)
  have r := own_rf1 p0 p1 p4 D (x := (own_v0_0 p2).toInt64) (by rw [a]; exact (own_cc p2).1) (by rw [a]; exact (own_cc p2).2)
  rw [a] at r
  have r2 := own_rf2 p0 p1 p3 p4 D (y := own_v0_8 p0 p2 p4) r o1
  exact own_at_eq (own_t64 o.2.1 rfl (by omega)) (own_is_of (x := own_v0_10 p0 p1 p2 p3 p4) r2 (by omega)) _
theorem own_x_c290_nn30_3 (p0 : Int32) (p1 : Int32) (p2 : Int32) (p3 : Int32) (p4 : Int32) (p5 : Int32) : NoNaN64 (FP.dmul (FP.i2d (p4 >>> ((11 : Int32) &&& 31))) (own_v8a_1 (FP.i2d (p0 &&& (1048575 : Int32))) (FP.i2d (own_v0_2 p4)))) := by
  obtain ⟨B0, B1, D⟩ := own_all4 p0 p1 p4
  exact own_at_nn (own_o1 p0 p1 p4 D (own_is_i2d (p4 >>> ((11 : Int32) &&& 31))) (own_c21 p4).1 (own_c21 p4).2).1
theorem own_x_c290_nn31_3 (p0 : Int32) (p1 : Int32) (p2 : Int32) (p3 : Int32) (p4 : Int32) (p5 : Int32) : NoNaN64 (FP.dadd (0 : UInt64) (FP.dmul (FP.i2d (p4 >>> ((11 : Int32) &&& 31))) (own_v8a_1 (FP.i2d (p0 &&& (1048575 : Int32))) (FP.i2d (own_v0_2 p4))))) := by
  obtain ⟨B0, B1, D⟩ := own_all4 p0 p1 p4
  exact own_at_nn (own_o1 p0 p1 p4 D (own_is_i2d (p4 >>> ((11 : Int32) &&& 31))) (own_c21 p4).1 (own_c21 p4).2).2.1
theorem own_x_c290_nn31_2_2 (p0 : Int32) (p1 : Int32) (p2 : Int32) (p3 : Int32) (p4 : Int32) (p5 : Int32) : NoNaN64 (FP.dadd (own_v7c_0 (FP.i2d (p4 >>> ((11 : Int32) &&& 31))) (own_v8a_1 (FP.i2d (p0 &&& (1048575 : Int32))) (FP.i2d (own_v0_2 p4)))) (FP.dmul (FP.i2d (own_v0_1 p3)) (own_v8b_2 (FP.i2d (p1 &&& (1048575 : Int32))) (FP.i2d (own_v0_3 p4)) (FP.i2d (-(own_v0_4 p4))) (own_v8a_1 (FP.i2d (p0 &&& (1048575 : Int32))) (FP.i2d (own_v0_2 p4)))))) := by
  obtain ⟨B0, B1, D⟩ := own_all4 p0 p1 p4
  exact own_at_nn (own_o2 p0 p1 p3 p4 D (own_is_i2d (p4 >>> ((11 : Int32) &&& 31))) (own_c21 p4).1 (own_c21 p4).2).2.1
theorem own_x_nn296_4 (p0 : Int32) (p1 : Int32) (p2 : Int32) (p3 : Int32) (p4 : Int32) (p5 : Int32) : NoNaN64 (FP.dmul (own_r7c_2 (FP.i2d (p4 >>> ((11 : Int32) &&& 31))) (own_v8a_1 (FP.i2d (p0 &&& (1048575 : Int32))) (FP.i2d (own_v0_2 p4))) (FP.i2d (own_v0_1 p3)) (own_v8b_2 (FP.i2d (p1 &&& (1048575 : Int32))) (FP.i2d (own_v0_3 p4)) (FP.i2d (-(own_v0_4 p4))) (own_v8a_1 (FP.i2d (p0 &&& (1048575 : Int32))) (FP.i2d (own_v0_2 p4))))) (4634204016564240384 : UInt64)) := by
  obtain ⟨B0, B1, D⟩ := own_all4 p0 p1 p4
  have o1 := (own_o1 p0 p1 p4 D (own_is_i2d (p4 >>> ((11 : Int32) &&& 31))) (own_c21 p4).1 (own_c21 p4).2).2.2
  have o := own_o2 p0 p1 p3 p4 D (own_is_i2d (p4 >>> ((11 : Int32) &&& 31))) (own_c21 p4).1 (own_c21 p4).2
  have w := o.2.2
  exact own_at_nn (own_t64 o.2.1 rfl (by omega))
theorem own_x_hc301_4 (p0 : Int32) (p1 : Int32) (p2 : Int32) (p3 : Int32) (p4 : Int32) (p5 : Int32) : (cmpValue (FP.dcmp (FP.dmul (own_r7c_2 (FP.i2d (p4 >>> ((11 : Int32) &&& 31))) (own_v8a_1 (FP.i2d (p0 &&& (1048575 : Int32))) (FP.i2d (own_v0_2 p4))) (FP.i2d (own_v0_1 p3)) (own_v8b_2 (FP.i2d (p1 &&& (1048575 : Int32))) (FP.i2d (own_v0_3 p4)) (FP.i2d (-(own_v0_4 p4))) (own_v8a_1 (FP.i2d (p0 &&& (1048575 : Int32))) (FP.i2d (own_v0_2 p4))))) (4634204016564240384 : UInt64)) (FP.l2d (own_v0_13 p0 p1 p3 p4))) .l) = (0 : Int32) := by
  obtain ⟨B0, B1, D⟩ := own_all4 p0 p1 p4
  have o1 := (own_o1 p0 p1 p4 D (own_is_i2d (p4 >>> ((11 : Int32) &&& 31))) (own_c21 p4).1 (own_c21 p4).2).2.2
  have o := own_o2 p0 p1 p3 p4 D (own_is_i2d (p4 >>> ((11 : Int32) &&& 31))) (own_c21 p4).1 (own_c21 p4).2
  have w := o.2.2
  have a := Jvm.Kit.i64_of_i32 (p4 >>> ((11 : Int32) &&& 31))
  have r := own_rf1 p0 p1 p4 D (x := (p4 >>> ((11 : Int32) &&& 31)).toInt64) (by rw [a]; exact (own_c21 p4).1) (by rw [a]; exact (own_c21 p4).2)
  rw [a] at r
  have r2 := own_rf2 p0 p1 p3 p4 D (y := own_v0_12 p0 p4) r o1
  exact own_at_eq (own_t64 o.2.1 rfl (by omega)) (own_is_of (x := own_v0_13 p0 p1 p3 p4) r2 (by omega)) _

set_option maxRecDepth 65536 in
set_option maxHeartbeats 40000000 in
theorem comes_1 {Post : Tables → Env → Array Value → State → Outcome → State → Prop} (hpost : ∀ tb e args s v u, (limb_1_1.after args s (.returned v) u = true ∧ limb_1_2.after args s (.returned v) u = true ∧ True) → FrameEnd s (.returned v) u (Jvm.fieldLocs frame_1_writes args s ++ Jvm.arrayLocs frame_1_arrays args s ++ Jvm.staticLocs frame_1_statics s) 136 896 → Post tb e args s (.returned v) u) :
    ArmFor flags0 classFile x code maxLocals ret World_1 tables_1 room_1 Calls_1 rest_1 Pre_1 Post := by
  intro l hfl _ _ p e ha hc hk s m args below hf hA hF happ hP
  obtain ⟨hcalls, hrest, hpre⟩ := hP
  obtain ⟨-, -, -, hnamed, -, -, -, hat⟩ := (Spec.applies_iff hf).mp happ
  obtain ⟨hg, hn⟩ := and_e (Cond.before_iff.mp (show (Jvm.Cond.and given_1 narrow_1).before args s = true from hpre))
  obtain ⟨g1a, g1b⟩ := and_e hg
  obtain ⟨g2a, g2b⟩ := and_e g1b
  obtain ⟨g3a, g3b⟩ := and_e g2b
  obtain ⟨g4a, g4b⟩ := and_e g3b
  obtain ⟨g5a, g5b⟩ := and_e g4b
  obtain ⟨g6a, g6b⟩ := and_e g5b
  obtain ⟨w0, w1, w2, w3, w4, w5, rfl⟩ : ∃ w0 w1 w2 w3 w4 w5 : Value, args = #[w0, w1, w2, w3, w4, w5] := by
    have hs : args.size = 6 := by simpa [Cond.value, given_1] using g1a
    obtain ⟨L⟩ := args
    match L, hs with
    | [w0, w1, w2, w3, w4, w5], _ => exact ⟨w0, w1, w2, w3, w4, w5, rfl⟩
  have hw := fun d (hd : d ∈ tables_1) => atoms_spec (ws := Jvm.Cond.code x code maxLocals ret :: tables_1) hat d (List.mem_cons_of_mem _ hd)
  obtain ⟨i0, ei0⟩ := is_v g2a
  obtain rfl : w0 = (.int i0) := Option.some.inj ei0
  obtain ⟨i1, ei1⟩ := is_v g3a
  obtain rfl : w1 = (.int i1) := Option.some.inj ei1
  obtain ⟨i2, ei2⟩ := is_v g4a
  obtain rfl : w2 = (.int i2) := Option.some.inj ei2
  obtain ⟨i3, ei3⟩ := is_v g5a
  obtain rfl : w3 = (.int i3) := Option.some.inj ei3
  obtain ⟨i4, ei4⟩ := is_v g6a
  obtain rfl : w4 = (.int i4) := Option.some.inj ei4
  obtain ⟨i5, ei5⟩ := is_v g6b
  obtain rfl : w5 = (.int i5) := Option.some.inj ei5
  obtain ⟨n, o, h1, h2, h3, _, L, rfl, ⟨rfl, N⟩, hq⟩ := own_rm0 l s _ hw tables_1 i0 i1 i2 i3 i4 i5 s.heap s.heap.size (Nat.le_refl _) (by first | exact own_x_nn296 i0 i1 i2 i3 i4 i5 | exact own_x_nn296 ) (by first | exact own_x_hc301 i0 i1 i2 i3 i4 i5 | exact own_x_hc301 ) (by first | exact own_x_c138_nn249 i0 i1 i2 i3 i4 i5 | exact own_x_c138_nn249 i0) (by first | exact own_x_c138_nn252 i0 i1 i2 i3 i4 i5 | exact own_x_c138_nn252 i0 i4) (by first | exact own_x_c138_hc261 i0 i1 i2 i3 i4 i5 | exact own_x_c138_hc261 i0 i4) (by first | exact own_x_c138_c318_c252_c11_hc19 i0 i1 i2 i3 i4 i5 | exact own_x_c138_c318_c252_c11_hc19 ) (by first | exact own_x_c138_nx349 i0 i1 i2 i3 i4 i5 | exact own_x_c138_nx349 ) (by first | exact own_x_c138_ny349 i0 i1 i2 i3 i4 i5 | exact own_x_c138_ny349 i0 i4) (by first | exact own_x_hz198 i0 i1 i2 i3 i4 i5 | exact own_x_hz198 i4) (by first | exact own_x_c290_nn30 i0 i1 i2 i3 i4 i5 | exact own_x_c290_nn30 i0 i2 i4) (by first | exact own_x_c290_nn31 i0 i1 i2 i3 i4 i5 | exact own_x_c290_nn31 i0 i2 i4) (by first | exact own_x_nn296_2 i0 i1 i2 i3 i4 i5 | exact own_x_nn296_2 i0 i2 i4) (by first | exact own_x_hc301_2 i0 i1 i2 i3 i4 i5 | exact own_x_hc301_2 i0 i2 i4) (by first | exact own_x_c245_nn236 i0 i1 i2 i3 i4 i5 | exact own_x_c245_nn236 i0 i4) (by first | exact own_x_c245_nn237 i0 i1 i2 i3 i4 i5 | exact own_x_c245_nn237 i0 i4) (by first | exact own_x_c245_nn249 i0 i1 i2 i3 i4 i5 | exact own_x_c245_nn249 i0 i1 i4) (by first | exact own_x_c245_nn252 i0 i1 i2 i3 i4 i5 | exact own_x_c245_nn252 i0 i1 i4) (by first | exact own_x_c245_hc261 i0 i1 i2 i3 i4 i5 | exact own_x_c245_hc261 i0 i1 i4) (by first | exact own_x_c245_ny349 i0 i1 i2 i3 i4 i5 | exact own_x_c245_ny349 i0 i1 i4) (by first | exact own_x_hz274 i0 i1 i2 i3 i4 i5 | exact own_x_hz274 i4) (by first | exact own_x_c290_nn30_2 i0 i1 i2 i3 i4 i5 | exact own_x_c290_nn30_2 i0 i1 i3 i4) (by first | exact own_x_c290_nn31_2 i0 i1 i2 i3 i4 i5 | exact own_x_c290_nn31_2 i0 i1 i2 i3 i4) (by first | exact own_x_nn296_3 i0 i1 i2 i3 i4 i5 | exact own_x_nn296_3 i0 i1 i2 i3 i4) (by first | exact own_x_hc301_3 i0 i1 i2 i3 i4 i5 | exact own_x_hc301_3 i0 i1 i2 i3 i4) (by first | exact own_x_c290_nn30_3 i0 i1 i2 i3 i4 i5 | exact own_x_c290_nn30_3 i0 i4) (by first | exact own_x_c290_nn31_3 i0 i1 i2 i3 i4 i5 | exact own_x_c290_nn31_3 i0 i4) (by first | exact own_x_c290_nn31_2_2 i0 i1 i2 i3 i4 i5 | exact own_x_c290_nn31_2_2 i0 i1 i3 i4) (by first | exact own_x_nn296_4 i0 i1 i2 i3 i4 i5 | exact own_x_nn296_4 i0 i1 i3 i4) (by first | exact own_x_hc301_4 i0 i1 i2 i3 i4 i5 | exact own_x_hc301_4 i0 i1 i3 i4) p e ha hc hk s m _ below hf ((Spec.applies_iff_loose hf).mp happ).1 ⟨rfl, State.Warmed39.refl s, rfl⟩ trivial
  refine ⟨n, _, h1, h2, h3, hpost _ _ _ _ _ _ ⟨Cond.after_iff.mpr rfl, Cond.after_iff.mpr (eq_i res_at (Term.int_eval (1)) rfl), trivial⟩ ⟨hq.1, hq.2.1, (hq.2.2.sift fun y hy => Or.inr (N y hy)).mono (by decide) (by decide)⟩⟩
theorem main_1_1 : Claimed_1_1 := comes_1 fun _ _ _ _ _ _ h hF => ⟨h.1, hF⟩
theorem main_1_2 : Claimed_1_2 := comes_1 fun _ _ _ _ _ _ h hF => ⟨h.2.1, hF⟩
end Jvm.Pilot.@@N@@
namespace Jvm.Pilot.@@N@@
open Jvm Jvm.ClassFile Sem Op Lib Jvm.Free Jvm.Stand Jvm.Pilot.@@N@@.Jvm.D
/-! MADE BY PROGRAM (witnessworld.py) out of the Statement's table words and the real class files: 21 classes; the members and pool entries that the words name. The judged class is class 1, her method 1. -/
namespace start1
open Jvm.ClassFile
def u (s : String) : CpInfo := .utf8 (stringToUtf16 s)
/-- a pool by its gaps: so many unusable entries, then the entry; so many at the end -/
def gap : Nat → List CpInfo → List CpInfo
  | 0, r => r
  | n + 1, r => .unusable :: gap n r
def poolList (es : List (Nat × CpInfo)) (last : Nat) : List CpInfo := es.foldr (fun e r => gap e.1 (e.2 :: r)) (gap last [])
def pool (es : List (Nat × CpInfo)) (last : Nat) : Array CpInfo := ⟨poolList es last⟩
def fileOf (pool : Array CpInfo) (this : Nat) (attrs : Array Attribute := #[]) (ms : Array MethodInfo := #[]) (fl : Nat := 33) (sup : Nat := 0) (ifs : Array Nat := #[]) (fds : Array FieldInfo := #[]) : ClassFile where
  minorVersion := 0
  majorVersion := 65
  constantPool := pool
  accessFlags := fl
  thisClass := this
  superClass := sup
  interfaces := ifs
  fields := fds
  methods := ms
  attributes := attrs
def plain (name : String) (sup : Option ClassId) : Class where
  name := name
  kind := .ordinary
  loader := none
  accessFlags := 33
  super := sup
  interfaces := #[]
  cf := none
  fields := #[]
  methods := #[]
  instanceTypes := #[]
  staticTypes := #[]
  resolved := #[]
  callSites := []
  init := .initialized
  statics := none
  mirror := none

def pool0 : Array CpInfo := pool [(5, u "<init>"), (0, u "()V"), (1, .class_ 10), (1, u "java/lang/Object"), (85, u "clone"), (0, u "()Ljava/lang/Object;")] 26

def k0c0 : Code := { maxStack := 0, maxLocals := 1, code := object_method_1_code, exceptionTable := #[], attributes := #[] }
def k0m0 : Method := { name := "<init>", desc := "()V", sig := { parameters := [], returnType := none }, accessFlags := 1, code := some k0c0 }
def k0m1 : Method := { name := "clone", desc := "()Ljava/lang/Object;", sig := { parameters := [], returnType := some (.object "java/lang/Object") }, accessFlags := 260, code := none }
/-- java/lang/Object -/
def k0 : Class := { plain "java/lang/Object" none with
  accessFlags := 33
  interfaces := #[]
  cf := some (fileOf pool0 8 #[] #[{ accessFlags := 1, nameIndex := 5, descriptorIndex := 6, attributes := #[] }, { accessFlags := 260, nameIndex := 96, descriptorIndex := 97, attributes := #[] }] 33 0 #[] #[])
  fields := #[]
  methods := #[k0m0, k0m1]
  instanceTypes := #[]
  staticTypes := #[]
  resolved := Array.replicate 124 none
  statics := none }

def pool1 : Array CpInfo := pool [(2, .class_ 4), (0, .nameAndType 5 6), (0, u "java/lang/Object"), (0, u "<init>"), (0, u "()V"), (0, .integer 1048575), (0, .methodref 9 10), (0, .class_ 11), (0, .nameAndType 12 13), (0, u "java/lang/Math"), (0, u "min"), (0, u "(II)I"), (0, .class_ 15), (0, u "com/example/placewright/placewright/solver/RevisedSimplex"), (0, .methodref 14 3), (0, .methodref 14 18), (0, .nameAndType 19 20), (0, u "addRow"), (0, u "(D[I[DDD)I"), (0, .methodref 14 22), (0, .nameAndType 23 24), (0, u "addColumn"), (0, u "([I[DD)I"), (0, .methodref 14 26), (0, .nameAndType 27 28), (0, u "setCost"), (0, u "(ID)V"), (0, .long 64), (1, .methodref 14 32), (0, .nameAndType 33 34), (0, u "objective"), (0, u "()D"), (0, .double 4634204016564240384), (1, .class_ 38), (0, u "com/example/placewright/placewright/solver/RevisedSimplexObjectivePinLaw"), (2, u "law"), (0, u "(IIIIII)Z")] 3

def k1m0 : Method := { name := "<init>", desc := "()V", sig := { parameters := [], returnType := none }, accessFlags := 1, code := none }
def k1c1 : Code := { maxStack := 9, maxLocals := 28, code := code, exceptionTable := #[], attributes := #[] }
def k1m1 : Method := { name := "law", desc := "(IIIIII)Z", sig := { parameters := [.int, .int, .int, .int, .int, .int], returnType := some .boolean }, accessFlags := 9, code := some k1c1 }
/-- com/example/placewright/placewright/solver/RevisedSimplexObjectivePinLaw -/
def k1 : Class := { plain "com/example/placewright/placewright/solver/RevisedSimplexObjectivePinLaw" (some 0) with
  accessFlags := 49
  interfaces := #[]
  cf := some (fileOf pool1 37 #[] #[{ accessFlags := 1, nameIndex := 5, descriptorIndex := 6, attributes := #[] }, { accessFlags := 9, nameIndex := 41, descriptorIndex := 42, attributes := #[] }] 49 2 #[] #[])
  fields := #[]
  methods := #[k1m0, k1m1]
  instanceTypes := #[]
  staticTypes := #[]
  resolved := Array.replicate 46 none
  statics := none }

def pool2 : Array CpInfo := pool [(1, .class_ 2), (0, u "java/lang/Math"), (1, .class_ 6), (1, u "java/lang/Object"), (0, u "<init>"), (0, u "()V"), (43, u "(DD)D"), (45, .class_ 100), (1, u "java/lang/Math$RandomNumberGeneratorHolder"), (71, u "negativeZeroFloatBits"), (0, u "J"), (2, u "negativeZeroDoubleBits"), (21, u "max"), (2, u "min"), (43, u "$assertionsDisabled"), (0, u "Z"), (88, u "(II)I"), (2, u "twoToTheDoubleScaleDown"), (0, u "D"), (4, u "twoToTheDoubleScaleUp"), (9, u "E"), (3, u "PI"), (2, u "TAU"), (2, u "DEGREES_TO_RADIANS"), (0, u "RADIANS_TO_DEGREES")] 94

def k2m0 : Method := { name := "<init>", desc := "()V", sig := { parameters := [], returnType := none }, accessFlags := 2, code := none }
def k2c1 : Code := { maxStack := 2, maxLocals := 2, code := jdk_29_method_65_code, exceptionTable := #[], attributes := #[] }
def k2m1 : Method := { name := "max", desc := "(II)I", sig := { parameters := [.int, .int], returnType := some .int }, accessFlags := 9, code := some k2c1 }
def k2c2 : Code := { maxStack := 4, maxLocals := 4, code := jdk_29_method_68_code, exceptionTable := #[], attributes := #[] }
def k2m2 : Method := { name := "max", desc := "(DD)D", sig := { parameters := [.double, .double], returnType := some .double }, accessFlags := 9, code := some k2c2 }
def k2c3 : Code := { maxStack := 2, maxLocals := 2, code := jdk_29_method_69_code, exceptionTable := #[], attributes := #[] }
def k2m3 : Method := { name := "min", desc := "(II)I", sig := { parameters := [.int, .int], returnType := some .int }, accessFlags := 9, code := some k2c3 }
/-- java/lang/Math -/
def k2 : Class := { plain "java/lang/Math" (some 0) with
  accessFlags := 49
  interfaces := #[]
  cf := some (fileOf pool2 1 #[.nestMembers #[98]] #[{ accessFlags := 2, nameIndex := 7, descriptorIndex := 8, attributes := #[] }, { accessFlags := 9, nameIndex := 198, descriptorIndex := 335, attributes := #[] }, { accessFlags := 9, nameIndex := 198, descriptorIndex := 52, attributes := #[] }, { accessFlags := 9, nameIndex := 201, descriptorIndex := 335, attributes := #[] }] 49 4 #[] #[{ accessFlags := 25, nameIndex := 354, descriptorIndex := 339, attributes := #[] }, { accessFlags := 25, nameIndex := 358, descriptorIndex := 339, attributes := #[] }, { accessFlags := 25, nameIndex := 361, descriptorIndex := 339, attributes := #[] }, { accessFlags := 26, nameIndex := 364, descriptorIndex := 339, attributes := #[] }, { accessFlags := 26, nameIndex := 365, descriptorIndex := 339, attributes := #[] }, { accessFlags := 26, nameIndex := 172, descriptorIndex := 173, attributes := #[] }, { accessFlags := 26, nameIndex := 176, descriptorIndex := 173, attributes := #[] }, { accessFlags := 8, nameIndex := 344, descriptorIndex := 339, attributes := #[] }, { accessFlags := 8, nameIndex := 338, descriptorIndex := 339, attributes := #[] }, { accessFlags := 4120, nameIndex := 245, descriptorIndex := 246, attributes := #[] }])
  fields := #[{ name := "E", type := .double, accessFlags := 25, slot := 0, constantValue := 0 }, { name := "PI", type := .double, accessFlags := 25, slot := 1, constantValue := 0 }, { name := "TAU", type := .double, accessFlags := 25, slot := 2, constantValue := 0 }, { name := "DEGREES_TO_RADIANS", type := .double, accessFlags := 26, slot := 3, constantValue := 0 }, { name := "RADIANS_TO_DEGREES", type := .double, accessFlags := 26, slot := 4, constantValue := 0 }, { name := "negativeZeroFloatBits", type := .long, accessFlags := 26, slot := 5, constantValue := 0 }, { name := "negativeZeroDoubleBits", type := .long, accessFlags := 26, slot := 6, constantValue := 0 }, { name := "twoToTheDoubleScaleUp", type := .double, accessFlags := 8, slot := 7, constantValue := 0 }, { name := "twoToTheDoubleScaleDown", type := .double, accessFlags := 8, slot := 8, constantValue := 0 }, { name := "$assertionsDisabled", type := .boolean, accessFlags := 4120, slot := 9, constantValue := 0 }]
  methods := #[k2m0, k2m1, k2m2, k2m3]
  instanceTypes := #[]
  staticTypes := #[.double, .double, .double, .double, .double, .long, .long, .double, .double, .boolean]
  resolved := Array.replicate 460 none
  statics := none }

def pool3 : Array CpInfo := pool [(1, .methodref 2 3), (0, .class_ 4), (0, .nameAndType 5 6), (0, u "java/lang/Object"), (0, u "<init>"), (0, u "()V"), (0, .class_ 8), (0, u "com/example/placewright/placewright/solver/RevisedSimplex"), (0, .class_ 10), (0, u "[I"), (0, .fieldref 7 12), (0, .nameAndType 13 14), (0, u "rows"), (0, u "[[I"), (0, .class_ 16), (0, u "[D"), (0, .fieldref 7 18), (0, .nameAndType 19 20), (0, u "values"), (0, u "[[D"), (0, .fieldref 7 22), (0, .nameAndType 23 16), (0, u "cost"), (0, .fieldref 7 25), (0, .nameAndType 26 10), (0, u "position"), (0, .fieldref 7 28), (0, .nameAndType 29 16), (0, u "reduced"), (0, .fieldref 7 31), (0, .nameAndType 32 16), (0, u "weight"), (0, .fieldref 7 34), (0, .nameAndType 35 14), (0, u "rowColumns"), (0, .fieldref 7 37), (0, .nameAndType 38 20), (0, u "rowValues"), (0, .fieldref 7 40), (0, .nameAndType 41 10), (0, u "rowLength"), (0, .fieldref 7 43), (0, .nameAndType 44 10), (0, u "candidates"), (0, .fieldref 7 46), (0, .nameAndType 47 48), (0, u "listed"), (0, u "[Z"), (0, .fieldref 7 50), (0, .nameAndType 51 52), (0, u "capacity"), (0, u "I"), (0, .fieldref 7 54), (0, .nameAndType 55 16), (0, u "rhs"), (0, .fieldref 7 57), (0, .nameAndType 58 10), (0, u "basis"), (0, .fieldref 7 60), (0, .nameAndType 61 16), (0, u "basic"), (0, .fieldref 7 63), (0, .nameAndType 64 16), (0, u "dual"), (0, .class_ 66), (0, u "com/example/placewright/placewright/solver/BasisFactorization"), (0, .methodref 65 3), (0, .fieldref 7 69), (0, .nameAndType 70 71), (0, u "factors"), (0, u "Lcom/example/placewright/placewright/solver/BasisFactorization;"), (0, .fieldref 7 73), (0, .nameAndType 74 75), (0, u "factored"), (0, u "Z"), (0, .fieldref 7 77), (0, .nameAndType 78 52), (0, u "columnCount"), (1, .class_ 82), (1, u "java/util/Arrays"), (0, u "copyOf"), (3, .methodref 80 88), (0, .nameAndType 83 89), (0, u "([DI)[D"), (0, .methodref 80 91), (0, .nameAndType 83 92), (0, u "([II)[I"), (3, .methodref 9 97), (0, .nameAndType 98 99), (0, u "clone"), (0, u "()Ljava/lang/Object;"), (0, .methodref 15 97), (0, .methodref 7 102), (0, .nameAndType 103 104), (0, u "addToRow"), (0, u "(IID)V"), (0, .fieldref 7 106), (0, .nameAndType 107 75), (0, u "dualsStale"), (4, .methodref 7 113), (0, .nameAndType 114 115), (0, u "list"), (0, u "(I)V"), (0, .fieldref 7 117), (0, .nameAndType 118 52), (0, u "rowCount"), (3, .methodref 123 124), (0, .class_ 125), (0, .nameAndType 126 127), (0, u "java/lang/Math"), (0, u "max"), (0, u "(II)I"), (0, .double 13695778570484766357), (10, .methodref 7 140), (0, .nameAndType 141 142), (0, u "addColumn"), (0, u "([I[DD)I"), (0, .methodref 123 144), (0, .nameAndType 126 145), (0, u "(DD)D"), (5, u "pivots"), (0, u "J"), (0, .class_ 154), (0, u "com/example/placewright/placewright/solver/RevisedSimplex$SparseRow"), (4, u "haired"), (2, u "degenerateRun"), (18, u "perturbation"), (33, u "objective"), (0, u "()D"), (79, u "(ID)V"), (31, .fieldref 7 329), (0, .nameAndType 330 52), (0, u "candidateCount"), (0, .methodref 7 332), (0, .nameAndType 333 334), (0, u "prices"), (0, u "(I)Z"), (12, u "FEASIBILITY"), (0, u "D"), (1, u "OPTIMALITY"), (0, u "PIVOT"), (0, u "ACCURACY"), (0, u "GAIN"), (0, u "DEGENERATE_RUN"), (1, u "MOST_PERTURBATIONS"), (1, u "BLAND_RUN"), (1, u "BLAND_PIVOT"), (0, u "PERTURBATION"), (0, u "PERTURBATION_SEED"), (0, u "DUAL_SLACK"), (0, u "SHIFT"), (0, u "SHIFT_SEED"), (2, u "RESTORE_PIVOTS_PER_ROW"), (1, u "HEAVIEST"), (0, u "FIRST_CAPACITY"), (4, u "addRow"), (0, u "(D[I[DDD)I"), (0, u "setCost")] 28

def k3c0 : Code := { maxStack := 3, maxLocals := 1, code := prog_29_method_1_code, exceptionTable := #[], attributes := #[] }
def k3m0 : Method := { name := "<init>", desc := "()V", sig := { parameters := [], returnType := none }, accessFlags := 0, code := some k3c0 }
def k3c1 : Code := { maxStack := 5, maxLocals := 7, code := prog_29_method_2_code, exceptionTable := #[], attributes := #[] }
def k3m1 : Method := { name := "addColumn", desc := "([I[DD)I", sig := { parameters := [(.array .int), (.array .double), .double], returnType := some .int }, accessFlags := 0, code := some k3c1 }
def k3c2 : Code := { maxStack := 7, maxLocals := 15, code := prog_29_method_3_code, exceptionTable := #[], attributes := #[] }
def k3m2 : Method := { name := "addRow", desc := "(D[I[DDD)I", sig := { parameters := [.double, (.array .int), (.array .double), .double, .double], returnType := some .int }, accessFlags := 0, code := some k3c2 }
def k3c3 : Code := { maxStack := 6, maxLocals := 5, code := prog_29_method_4_code, exceptionTable := #[], attributes := #[] }
def k3m3 : Method := { name := "addToRow", desc := "(IID)V", sig := { parameters := [.int, .int, .double], returnType := none }, accessFlags := 2, code := some k3c3 }
def k3c4 : Code := { maxStack := 4, maxLocals := 4, code := prog_29_method_6_code, exceptionTable := #[], attributes := #[] }
def k3m4 : Method := { name := "setCost", desc := "(ID)V", sig := { parameters := [.int, .double], returnType := none }, accessFlags := 0, code := some k3c4 }
def k3c5 : Code := { maxStack := 6, maxLocals := 4, code := prog_29_method_11_code, exceptionTable := #[], attributes := #[] }
def k3m5 : Method := { name := "objective", desc := "()D", sig := { parameters := [], returnType := some .double }, accessFlags := 0, code := some k3c5 }
def k3c6 : Code := { maxStack := 4, maxLocals := 2, code := prog_29_method_31_code, exceptionTable := #[], attributes := #[] }
def k3m6 : Method := { name := "prices", desc := "(I)Z", sig := { parameters := [.int], returnType := some .boolean }, accessFlags := 2, code := some k3c6 }
def k3c7 : Code := { maxStack := 5, maxLocals := 2, code := prog_29_method_32_code, exceptionTable := #[], attributes := #[] }
def k3m7 : Method := { name := "list", desc := "(I)V", sig := { parameters := [.int], returnType := none }, accessFlags := 2, code := some k3c7 }
/-- com/example/placewright/placewright/solver/RevisedSimplex -/
def k3 : Class := { plain "com/example/placewright/placewright/solver/RevisedSimplex" (some 0) with
  accessFlags := 48
  interfaces := #[]
  cf := some (fileOf pool3 7 #[.nestMembers #[153]] #[{ accessFlags := 0, nameIndex := 5, descriptorIndex := 6, attributes := #[] }, { accessFlags := 0, nameIndex := 141, descriptorIndex := 142, attributes := #[] }, { accessFlags := 0, nameIndex := 376, descriptorIndex := 377, attributes := #[] }, { accessFlags := 2, nameIndex := 103, descriptorIndex := 104, attributes := #[] }, { accessFlags := 0, nameIndex := 378, descriptorIndex := 296, attributes := #[] }, { accessFlags := 0, nameIndex := 215, descriptorIndex := 216, attributes := #[] }, { accessFlags := 2, nameIndex := 333, descriptorIndex := 334, attributes := #[] }, { accessFlags := 2, nameIndex := 114, descriptorIndex := 115, attributes := #[] }] 48 2 #[] #[{ accessFlags := 26, nameIndex := 347, descriptorIndex := 348, attributes := #[] }, { accessFlags := 26, nameIndex := 350, descriptorIndex := 348, attributes := #[] }, { accessFlags := 26, nameIndex := 351, descriptorIndex := 348, attributes := #[] }, { accessFlags := 26, nameIndex := 352, descriptorIndex := 348, attributes := #[] }, { accessFlags := 26, nameIndex := 353, descriptorIndex := 348, attributes := #[] }, { accessFlags := 26, nameIndex := 354, descriptorIndex := 52, attributes := #[] }, { accessFlags := 26, nameIndex := 356, descriptorIndex := 52, attributes := #[] }, { accessFlags := 26, nameIndex := 358, descriptorIndex := 52, attributes := #[] }, { accessFlags := 26, nameIndex := 360, descriptorIndex := 348, attributes := #[] }, { accessFlags := 26, nameIndex := 361, descriptorIndex := 348, attributes := #[] }, { accessFlags := 26, nameIndex := 362, descriptorIndex := 152, attributes := #[] }, { accessFlags := 26, nameIndex := 363, descriptorIndex := 348, attributes := #[] }, { accessFlags := 26, nameIndex := 364, descriptorIndex := 348, attributes := #[] }, { accessFlags := 26, nameIndex := 365, descriptorIndex := 152, attributes := #[] }, { accessFlags := 26, nameIndex := 368, descriptorIndex := 52, attributes := #[] }, { accessFlags := 26, nameIndex := 370, descriptorIndex := 348, attributes := #[] }, { accessFlags := 26, nameIndex := 371, descriptorIndex := 52, attributes := #[] }, { accessFlags := 2, nameIndex := 13, descriptorIndex := 14, attributes := #[] }, { accessFlags := 2, nameIndex := 19, descriptorIndex := 20, attributes := #[] }, { accessFlags := 2, nameIndex := 23, descriptorIndex := 16, attributes := #[] }, { accessFlags := 2, nameIndex := 26, descriptorIndex := 10, attributes := #[] }, { accessFlags := 2, nameIndex := 29, descriptorIndex := 16, attributes := #[] }, { accessFlags := 2, nameIndex := 32, descriptorIndex := 16, attributes := #[] }, { accessFlags := 2, nameIndex := 78, descriptorIndex := 52, attributes := #[] }, { accessFlags := 2, nameIndex := 35, descriptorIndex := 14, attributes := #[] }, { accessFlags := 2, nameIndex := 38, descriptorIndex := 20, attributes := #[] }, { accessFlags := 2, nameIndex := 41, descriptorIndex := 10, attributes := #[] }, { accessFlags := 2, nameIndex := 44, descriptorIndex := 10, attributes := #[] }, { accessFlags := 2, nameIndex := 47, descriptorIndex := 48, attributes := #[] }, { accessFlags := 2, nameIndex := 330, descriptorIndex := 52, attributes := #[] }, { accessFlags := 2, nameIndex := 118, descriptorIndex := 52, attributes := #[] }, { accessFlags := 2, nameIndex := 51, descriptorIndex := 52, attributes := #[] }, { accessFlags := 2, nameIndex := 55, descriptorIndex := 16, attributes := #[] }, { accessFlags := 2, nameIndex := 58, descriptorIndex := 10, attributes := #[] }, { accessFlags := 2, nameIndex := 61, descriptorIndex := 16, attributes := #[] }, { accessFlags := 2, nameIndex := 64, descriptorIndex := 16, attributes := #[] }, { accessFlags := 18, nameIndex := 70, descriptorIndex := 71, attributes := #[] }, { accessFlags := 2, nameIndex := 74, descriptorIndex := 75, attributes := #[] }, { accessFlags := 2, nameIndex := 107, descriptorIndex := 75, attributes := #[] }, { accessFlags := 2, nameIndex := 181, descriptorIndex := 16, attributes := #[] }, { accessFlags := 2, nameIndex := 159, descriptorIndex := 75, attributes := #[] }, { accessFlags := 2, nameIndex := 151, descriptorIndex := 152, attributes := #[] }, { accessFlags := 2, nameIndex := 162, descriptorIndex := 52, attributes := #[] }])
  fields := #[{ name := "FEASIBILITY", type := .double, accessFlags := 26, slot := 0, constantValue := 0 }, { name := "OPTIMALITY", type := .double, accessFlags := 26, slot := 1, constantValue := 0 }, { name := "PIVOT", type := .double, accessFlags := 26, slot := 2, constantValue := 0 }, { name := "ACCURACY", type := .double, accessFlags := 26, slot := 3, constantValue := 0 }, { name := "GAIN", type := .double, accessFlags := 26, slot := 4, constantValue := 0 }, { name := "DEGENERATE_RUN", type := .int, accessFlags := 26, slot := 5, constantValue := 0 }, { name := "MOST_PERTURBATIONS", type := .int, accessFlags := 26, slot := 6, constantValue := 0 }, { name := "BLAND_RUN", type := .int, accessFlags := 26, slot := 7, constantValue := 0 }, { name := "BLAND_PIVOT", type := .double, accessFlags := 26, slot := 8, constantValue := 0 }, { name := "PERTURBATION", type := .double, accessFlags := 26, slot := 9, constantValue := 0 }, { name := "PERTURBATION_SEED", type := .long, accessFlags := 26, slot := 10, constantValue := 0 }, { name := "DUAL_SLACK", type := .double, accessFlags := 26, slot := 11, constantValue := 0 }, { name := "SHIFT", type := .double, accessFlags := 26, slot := 12, constantValue := 0 }, { name := "SHIFT_SEED", type := .long, accessFlags := 26, slot := 13, constantValue := 0 }, { name := "RESTORE_PIVOTS_PER_ROW", type := .int, accessFlags := 26, slot := 14, constantValue := 0 }, { name := "HEAVIEST", type := .double, accessFlags := 26, slot := 15, constantValue := 0 }, { name := "FIRST_CAPACITY", type := .int, accessFlags := 26, slot := 16, constantValue := 0 }, { name := "rows", type := (.array (.array .int)), accessFlags := 2, slot := 0, constantValue := 0 }, { name := "values", type := (.array (.array .double)), accessFlags := 2, slot := 1, constantValue := 0 }, { name := "cost", type := (.array .double), accessFlags := 2, slot := 2, constantValue := 0 }, { name := "position", type := (.array .int), accessFlags := 2, slot := 3, constantValue := 0 }, { name := "reduced", type := (.array .double), accessFlags := 2, slot := 4, constantValue := 0 }, { name := "weight", type := (.array .double), accessFlags := 2, slot := 5, constantValue := 0 }, { name := "columnCount", type := .int, accessFlags := 2, slot := 6, constantValue := 0 }, { name := "rowColumns", type := (.array (.array .int)), accessFlags := 2, slot := 7, constantValue := 0 }, { name := "rowValues", type := (.array (.array .double)), accessFlags := 2, slot := 8, constantValue := 0 }, { name := "rowLength", type := (.array .int), accessFlags := 2, slot := 9, constantValue := 0 }, { name := "candidates", type := (.array .int), accessFlags := 2, slot := 10, constantValue := 0 }, { name := "listed", type := (.array .boolean), accessFlags := 2, slot := 11, constantValue := 0 }, { name := "candidateCount", type := .int, accessFlags := 2, slot := 12, constantValue := 0 }, { name := "rowCount", type := .int, accessFlags := 2, slot := 13, constantValue := 0 }, { name := "capacity", type := .int, accessFlags := 2, slot := 14, constantValue := 0 }, { name := "rhs", type := (.array .double), accessFlags := 2, slot := 15, constantValue := 0 }, { name := "basis", type := (.array .int), accessFlags := 2, slot := 16, constantValue := 0 }, { name := "basic", type := (.array .double), accessFlags := 2, slot := 17, constantValue := 0 }, { name := "dual", type := (.array .double), accessFlags := 2, slot := 18, constantValue := 0 }, { name := "factors", type := (.object "com/example/placewright/placewright/solver/BasisFactorization"), accessFlags := 18, slot := 19, constantValue := 0 }, { name := "factored", type := .boolean, accessFlags := 2, slot := 20, constantValue := 0 }, { name := "dualsStale", type := .boolean, accessFlags := 2, slot := 21, constantValue := 0 }, { name := "perturbation", type := (.array .double), accessFlags := 2, slot := 22, constantValue := 0 }, { name := "haired", type := .boolean, accessFlags := 2, slot := 23, constantValue := 0 }, { name := "pivots", type := .long, accessFlags := 2, slot := 24, constantValue := 0 }, { name := "degenerateRun", type := .int, accessFlags := 2, slot := 25, constantValue := 0 }]
  methods := #[k3m0, k3m1, k3m2, k3m3, k3m4, k3m5, k3m6, k3m7]
  instanceTypes := #[(.array (.array .int)), (.array (.array .double)), (.array .double), (.array .int), (.array .double), (.array .double), .int, (.array (.array .int)), (.array (.array .double)), (.array .int), (.array .int), (.array .boolean), .int, .int, .int, (.array .double), (.array .int), (.array .double), (.array .double), (.object "com/example/placewright/placewright/solver/BasisFactorization"), .boolean, .boolean, (.array .double), .boolean, .long, .int]
  staticTypes := #[.double, .double, .double, .double, .double, .int, .int, .int, .double, .double, .long, .double, .double, .long, .int, .double, .int]
  resolved := Array.replicate 407 none
  statics := none }

def pool4 : Array CpInfo := pool [(1, .methodref 2 3), (0, .class_ 4), (0, .nameAndType 5 6), (0, u "java/lang/Object"), (0, u "<init>"), (0, u "()V"), (0, .fieldref 8 9), (0, .class_ 10), (0, .nameAndType 11 12), (0, u "com/example/placewright/placewright/solver/BasisFactorization"), (0, u "stepRow"), (0, u "[I"), (0, .fieldref 8 14), (0, .nameAndType 15 12), (0, u "stepPosition"), (0, .fieldref 8 17), (0, .nameAndType 18 19), (0, u "diagonal"), (0, u "[D"), (0, .fieldref 8 21), (0, .nameAndType 22 12), (0, u "stepOfPosition"), (0, .class_ 24), (0, u "com/example/placewright/placewright/solver/BasisFactorization$Entries"), (0, .methodref 23 3), (0, .fieldref 8 27), (0, .nameAndType 28 29), (0, u "lower"), (0, u "Lcom/example/placewright/placewright/solver/BasisFactorization$Entries;"), (0, .fieldref 8 31), (0, .nameAndType 32 12), (0, u "lowerRow"), (0, .class_ 34), (0, u "com/example/placewright/placewright/solver/BasisFactorization$Lists"), (0, .methodref 33 36), (0, .nameAndType 5 37), (0, u "(I)V"), (0, .fieldref 8 39), (0, .nameAndType 40 41), (0, u "upperByRow"), (0, u "Lcom/example/placewright/placewright/solver/BasisFactorization$Lists;"), (0, .fieldref 8 43), (0, .nameAndType 44 41), (0, u "upperByPosition"), (0, .fieldref 8 46), (0, .nameAndType 47 29), (0, u "rowEtas"), (0, .fieldref 8 49), (0, .nameAndType 50 12), (0, u "rowEtaRow"), (0, .fieldref 8 52), (0, .nameAndType 53 19), (0, u "byRow"), (0, .fieldref 8 55), (0, .nameAndType 56 19), (0, u "byPosition"), (2, u "size"), (0, u "I"), (5, u "updates"), (0, .class_ 68), (0, u "com/example/placewright/placewright/solver/BasisFactorization$Elimination"), (18, u "factorEntries"), (72, u "THRESHOLD"), (0, u "D"), (3, u "SINGULAR"), (0, u "SEARCH"), (1, u "UPDATE_ACCURACY"), (0, u "MOST_UPDATES"), (1, u "GROWTH"), (21, .class_ 194), (0, u "com/example/placewright/placewright/solver/BasisFactorization$Buckets")] 5

def k4c0 : Code := { maxStack := 4, maxLocals := 1, code := prog_13_method_1_code, exceptionTable := #[], attributes := #[] }
def k4m0 : Method := { name := "<init>", desc := "()V", sig := { parameters := [], returnType := none }, accessFlags := 0, code := some k4c0 }
/-- com/example/placewright/placewright/solver/BasisFactorization -/
def k4 : Class := { plain "com/example/placewright/placewright/solver/BasisFactorization" (some 0) with
  accessFlags := 48
  interfaces := #[]
  cf := some (fileOf pool4 8 #[.nestMembers #[193, 67, 33, 23]] #[{ accessFlags := 0, nameIndex := 5, descriptorIndex := 6, attributes := #[] }] 48 2 #[] #[{ accessFlags := 26, nameIndex := 160, descriptorIndex := 161, attributes := #[] }, { accessFlags := 26, nameIndex := 165, descriptorIndex := 161, attributes := #[] }, { accessFlags := 26, nameIndex := 166, descriptorIndex := 60, attributes := #[] }, { accessFlags := 26, nameIndex := 168, descriptorIndex := 161, attributes := #[] }, { accessFlags := 26, nameIndex := 169, descriptorIndex := 60, attributes := #[] }, { accessFlags := 26, nameIndex := 171, descriptorIndex := 60, attributes := #[] }, { accessFlags := 2, nameIndex := 59, descriptorIndex := 60, attributes := #[] }, { accessFlags := 2, nameIndex := 11, descriptorIndex := 12, attributes := #[] }, { accessFlags := 2, nameIndex := 15, descriptorIndex := 12, attributes := #[] }, { accessFlags := 2, nameIndex := 18, descriptorIndex := 19, attributes := #[] }, { accessFlags := 2, nameIndex := 22, descriptorIndex := 12, attributes := #[] }, { accessFlags := 18, nameIndex := 28, descriptorIndex := 29, attributes := #[] }, { accessFlags := 2, nameIndex := 32, descriptorIndex := 12, attributes := #[] }, { accessFlags := 2, nameIndex := 40, descriptorIndex := 41, attributes := #[] }, { accessFlags := 2, nameIndex := 44, descriptorIndex := 41, attributes := #[] }, { accessFlags := 18, nameIndex := 47, descriptorIndex := 29, attributes := #[] }, { accessFlags := 2, nameIndex := 50, descriptorIndex := 12, attributes := #[] }, { accessFlags := 2, nameIndex := 66, descriptorIndex := 60, attributes := #[] }, { accessFlags := 2, nameIndex := 87, descriptorIndex := 60, attributes := #[] }, { accessFlags := 2, nameIndex := 53, descriptorIndex := 19, attributes := #[] }, { accessFlags := 2, nameIndex := 56, descriptorIndex := 19, attributes := #[] }])
  fields := #[{ name := "THRESHOLD", type := .double, accessFlags := 26, slot := 0, constantValue := 0 }, { name := "SINGULAR", type := .double, accessFlags := 26, slot := 1, constantValue := 0 }, { name := "SEARCH", type := .int, accessFlags := 26, slot := 2, constantValue := 0 }, { name := "UPDATE_ACCURACY", type := .double, accessFlags := 26, slot := 3, constantValue := 0 }, { name := "MOST_UPDATES", type := .int, accessFlags := 26, slot := 4, constantValue := 0 }, { name := "GROWTH", type := .int, accessFlags := 26, slot := 5, constantValue := 0 }, { name := "size", type := .int, accessFlags := 2, slot := 0, constantValue := 0 }, { name := "stepRow", type := (.array .int), accessFlags := 2, slot := 1, constantValue := 0 }, { name := "stepPosition", type := (.array .int), accessFlags := 2, slot := 2, constantValue := 0 }, { name := "diagonal", type := (.array .double), accessFlags := 2, slot := 3, constantValue := 0 }, { name := "stepOfPosition", type := (.array .int), accessFlags := 2, slot := 4, constantValue := 0 }, { name := "lower", type := (.object "com/example/placewright/placewright/solver/BasisFactorization$Entries"), accessFlags := 18, slot := 5, constantValue := 0 }, { name := "lowerRow", type := (.array .int), accessFlags := 2, slot := 6, constantValue := 0 }, { name := "upperByRow", type := (.object "com/example/placewright/placewright/solver/BasisFactorization$Lists"), accessFlags := 2, slot := 7, constantValue := 0 }, { name := "upperByPosition", type := (.object "com/example/placewright/placewright/solver/BasisFactorization$Lists"), accessFlags := 2, slot := 8, constantValue := 0 }, { name := "rowEtas", type := (.object "com/example/placewright/placewright/solver/BasisFactorization$Entries"), accessFlags := 18, slot := 9, constantValue := 0 }, { name := "rowEtaRow", type := (.array .int), accessFlags := 2, slot := 10, constantValue := 0 }, { name := "updates", type := .int, accessFlags := 2, slot := 11, constantValue := 0 }, { name := "factorEntries", type := .int, accessFlags := 2, slot := 12, constantValue := 0 }, { name := "byRow", type := (.array .double), accessFlags := 2, slot := 13, constantValue := 0 }, { name := "byPosition", type := (.array .double), accessFlags := 2, slot := 14, constantValue := 0 }]
  methods := #[k4m0]
  instanceTypes := #[.int, (.array .int), (.array .int), (.array .double), (.array .int), (.object "com/example/placewright/placewright/solver/BasisFactorization$Entries"), (.array .int), (.object "com/example/placewright/placewright/solver/BasisFactorization$Lists"), (.object "com/example/placewright/placewright/solver/BasisFactorization$Lists"), (.object "com/example/placewright/placewright/solver/BasisFactorization$Entries"), (.array .int), .int, .int, (.array .double), (.array .double)]
  staticTypes := #[.double, .double, .int, .double, .int, .int]
  resolved := Array.replicate 23 none ++ #[some (.cls 5)] ++ Array.replicate 1 none ++ #[some (.method ⟨5, 0⟩)] ++ Array.replicate 174 none
  statics := none }

def pool5 : Array CpInfo := pool [(1, .methodref 2 3), (0, .class_ 4), (0, .nameAndType 5 6), (0, u "java/lang/Object"), (0, u "<init>"), (0, u "()V"), (0, .fieldref 8 9), (0, .class_ 10), (0, .nameAndType 11 12), (0, u "com/example/placewright/placewright/solver/BasisFactorization$Entries"), (0, u "start"), (0, u "[I"), (0, .fieldref 8 14), (0, .nameAndType 15 12), (0, u "index"), (0, .fieldref 8 17), (0, .nameAndType 18 19), (0, u "value"), (0, u "[D"), (2, u "vectors"), (0, u "I"), (2, u "length"), (19, .class_ 47), (0, u "com/example/placewright/placewright/solver/BasisFactorization")] 2

def k5c0 : Code := { maxStack := 5, maxLocals := 1, code := prog_16_method_1_code, exceptionTable := #[], attributes := #[] }
def k5m0 : Method := { name := "<init>", desc := "()V", sig := { parameters := [], returnType := none }, accessFlags := 2, code := some k5c0 }
/-- com/example/placewright/placewright/solver/BasisFactorization$Entries -/
def k5 : Class := { plain "com/example/placewright/placewright/solver/BasisFactorization$Entries" (some 0) with
  accessFlags := 48
  interfaces := #[]
  cf := some (fileOf pool5 8 #[.nestHost 46] #[{ accessFlags := 2, nameIndex := 5, descriptorIndex := 6, attributes := #[] }] 48 2 #[] #[{ accessFlags := 2, nameIndex := 11, descriptorIndex := 12, attributes := #[] }, { accessFlags := 2, nameIndex := 15, descriptorIndex := 12, attributes := #[] }, { accessFlags := 2, nameIndex := 18, descriptorIndex := 19, attributes := #[] }, { accessFlags := 2, nameIndex := 22, descriptorIndex := 23, attributes := #[] }, { accessFlags := 2, nameIndex := 26, descriptorIndex := 23, attributes := #[] }])
  fields := #[{ name := "start", type := (.array .int), accessFlags := 2, slot := 0, constantValue := 0 }, { name := "index", type := (.array .int), accessFlags := 2, slot := 1, constantValue := 0 }, { name := "value", type := (.array .double), accessFlags := 2, slot := 2, constantValue := 0 }, { name := "vectors", type := .int, accessFlags := 2, slot := 3, constantValue := 0 }, { name := "length", type := .int, accessFlags := 2, slot := 4, constantValue := 0 }]
  methods := #[k5m0]
  instanceTypes := #[(.array .int), (.array .int), (.array .double), .int, .int]
  staticTypes := #[]
  resolved := Array.replicate 50 none
  statics := none }

def pool6 : Array CpInfo := pool [(1, .methodref 2 3), (0, .class_ 4), (0, .nameAndType 5 6), (0, u "java/lang/Object"), (0, u "<init>"), (0, u "()V"), (0, .class_ 8), (0, u "[I"), (0, .fieldref 10 11), (0, .class_ 12), (0, .nameAndType 13 14), (0, u "com/example/placewright/placewright/solver/BasisFactorization$Lists"), (0, u "index"), (0, u "[[I"), (0, .class_ 16), (0, u "[D"), (0, .fieldref 10 18), (0, .nameAndType 19 20), (0, u "value"), (0, u "[[D"), (0, .fieldref 10 22), (0, .nameAndType 23 8), (0, u "length"), (11, u "entries"), (0, u "I"), (8, u "(I)V"), (10, .class_ 57), (0, u "com/example/placewright/placewright/solver/BasisFactorization")] 2

def k6c0 : Code := { maxStack := 3, maxLocals := 3, code := prog_17_method_1_code, exceptionTable := #[], attributes := #[] }
def k6m0 : Method := { name := "<init>", desc := "(I)V", sig := { parameters := [.int], returnType := none }, accessFlags := 0, code := some k6c0 }
/-- com/example/placewright/placewright/solver/BasisFactorization$Lists -/
def k6 : Class := { plain "com/example/placewright/placewright/solver/BasisFactorization$Lists" (some 0) with
  accessFlags := 48
  interfaces := #[]
  cf := some (fileOf pool6 10 #[.nestHost 56] #[{ accessFlags := 0, nameIndex := 5, descriptorIndex := 45, attributes := #[] }] 48 2 #[] #[{ accessFlags := 18, nameIndex := 13, descriptorIndex := 14, attributes := #[] }, { accessFlags := 18, nameIndex := 19, descriptorIndex := 20, attributes := #[] }, { accessFlags := 18, nameIndex := 23, descriptorIndex := 8, attributes := #[] }, { accessFlags := 2, nameIndex := 35, descriptorIndex := 36, attributes := #[] }])
  fields := #[{ name := "index", type := (.array (.array .int)), accessFlags := 18, slot := 0, constantValue := 0 }, { name := "value", type := (.array (.array .double)), accessFlags := 18, slot := 1, constantValue := 0 }, { name := "length", type := (.array .int), accessFlags := 18, slot := 2, constantValue := 0 }, { name := "entries", type := .int, accessFlags := 2, slot := 3, constantValue := 0 }]
  methods := #[k6m0]
  instanceTypes := #[(.array (.array .int)), (.array (.array .double)), (.array .int), .int]
  staticTypes := #[]
  resolved := Array.replicate 60 none
  statics := none }

def pool7 : Array CpInfo := pool [(1, .class_ 2), (0, u "java/lang/Cloneable"), (0, .class_ 4), (0, u "java/lang/Object")] 2

/-- java/lang/Cloneable -/
def k7 : Class := { plain "java/lang/Cloneable" (some 0) with
  accessFlags := 1537
  interfaces := #[]
  cf := some (fileOf pool7 1 #[] #[] 1537 3 #[] #[])
  fields := #[]
  methods := #[]
  instanceTypes := #[]
  staticTypes := #[]
  resolved := Array.replicate 7 none
  statics := none }

def pool8 : Array CpInfo := pool [(2, .class_ 4), (1, u "java/lang/Object"), (0, u "<init>"), (0, u "()V"), (7, .class_ 16), (1, u "java/util/Arrays"), (57, .class_ 76), (1, u "java/util/Arrays$NaturalOrder"), (36, .class_ 115), (1, u "java/util/Arrays$LegacyMergeSort"), (1, u "Z"), (32, .methodref 151 152), (0, .class_ 153), (0, .nameAndType 154 155), (0, u "java/lang/System"), (0, u "arraycopy"), (0, u "(Ljava/lang/Object;ILjava/lang/Object;II)V"), (146, u "copyOf"), (1, .methodref 305 306), (0, .class_ 307), (0, .nameAndType 308 309), (0, u "java/lang/Math"), (0, u "min"), (0, u "(II)I"), (65, .class_ 376), (0, u "java/util/Arrays$ArrayList"), (68, u "$assertionsDisabled"), (269, u "MIN_ARRAY_SORT_GRAN"), (0, u "I"), (2, u "INSERTIONSORT_THRESHOLD"), (151, u "([II)[I"), (3, u "([DI)[D"), (99, .class_ 976), (0, u "java/util/Arrays$ArrayItr")] 52

def k8m0 : Method := { name := "<init>", desc := "()V", sig := { parameters := [], returnType := none }, accessFlags := 2, code := none }
def k8c1 : Code := { maxStack := 6, maxLocals := 3, code := jdk_65_method_123_code, exceptionTable := #[], attributes := #[] }
def k8m1 : Method := { name := "copyOf", desc := "([II)[I", sig := { parameters := [(.array .int), .int], returnType := some (.array .int) }, accessFlags := 9, code := some k8c1 }
def k8c2 : Code := { maxStack := 6, maxLocals := 3, code := jdk_65_method_127_code, exceptionTable := #[], attributes := #[] }
def k8m2 : Method := { name := "copyOf", desc := "([DI)[D", sig := { parameters := [(.array .double), .int], returnType := some (.array .double) }, accessFlags := 9, code := some k8c2 }
/-- java/util/Arrays -/
def k8 : Class := { plain "java/util/Arrays" (some 0) with
  accessFlags := 49
  interfaces := #[]
  cf := some (fileOf pool8 14 #[.nestMembers #[975, 375, 113, 74]] #[{ accessFlags := 2, nameIndex := 5, descriptorIndex := 6, attributes := #[] }, { accessFlags := 9, nameIndex := 302, descriptorIndex := 871, attributes := #[] }, { accessFlags := 9, nameIndex := 302, descriptorIndex := 875, attributes := #[] }] 49 2 #[] #[{ accessFlags := 26, nameIndex := 715, descriptorIndex := 716, attributes := #[] }, { accessFlags := 26, nameIndex := 719, descriptorIndex := 716, attributes := #[] }, { accessFlags := 4120, nameIndex := 445, descriptorIndex := 117, attributes := #[] }])
  fields := #[{ name := "MIN_ARRAY_SORT_GRAN", type := .int, accessFlags := 26, slot := 0, constantValue := 0 }, { name := "INSERTIONSORT_THRESHOLD", type := .int, accessFlags := 26, slot := 1, constantValue := 0 }, { name := "$assertionsDisabled", type := .boolean, accessFlags := 4120, slot := 2, constantValue := 0 }]
  methods := #[k8m0, k8m1, k8m2]
  instanceTypes := #[]
  staticTypes := #[.int, .int, .boolean]
  resolved := Array.replicate 1029 none
  statics := none }

def pool9 : Array CpInfo := pool [(2, .class_ 4), (1, u "java/lang/Object"), (0, u "<init>"), (0, u "()V"), (1, .class_ 10), (1, u "java/lang/System"), (0, u "allowSecurityManager"), (0, u "I"), (16, u "cons"), (0, u "Ljava/io/Console;"), (77, .class_ 110), (1, u "java/lang/System$CallersHolder"), (43, u "initialErrStream"), (0, u "Ljava/io/PrintStream;"), (19, u "security"), (0, u "Ljava/lang/SecurityManager;"), (31, .class_ 209), (0, u "java/lang/System$1"), (7, u "props"), (0, u "Ljava/util/Properties;"), (2, u "lineSeparator"), (0, u "Ljava/lang/String;"), (96, .class_ 321), (1, u "java/lang/System$LoggerFinder"), (5, .class_ 328), (0, u "java/lang/System$Logger"), (67, u "err"), (2, u "out"), (91, u "notSupportedJnuEncoding"), (15, u "in"), (17, u "initialIn"), (0, u "Ljava/io/InputStream;"), (35, u "bootLayer"), (0, u "Ljava/lang/ModuleLayer;"), (99, .class_ 664), (0, u "java/lang/System$2"), (9, u "NEVER"), (2, u "MAYBE"), (49, u "arraycopy"), (0, u "(Ljava/lang/Object;ILjava/lang/Object;II)V"), (72, .class_ 802), (0, u "java/lang/System$Logger$Level")] 31

def k9m0 : Method := { name := "<init>", desc := "()V", sig := { parameters := [], returnType := none }, accessFlags := 2, code := none }
def k9m1 : Method := { name := "arraycopy", desc := "(Ljava/lang/Object;ILjava/lang/Object;II)V", sig := { parameters := [(.object "java/lang/Object"), .int, (.object "java/lang/Object"), .int, .int], returnType := none }, accessFlags := 265, code := none }
/-- java/lang/System -/
def k9 : Class := { plain "java/lang/System" (some 0) with
  accessFlags := 49
  interfaces := #[]
  cf := some (fileOf pool9 8 #[.nestMembers #[319, 327, 801, 108, 663, 208]] #[{ accessFlags := 2, nameIndex := 5, descriptorIndex := 6, attributes := #[] }, { accessFlags := 265, nameIndex := 727, descriptorIndex := 728, attributes := #[] }] 49 2 #[] #[{ accessFlags := 25, nameIndex := 507, descriptorIndex := 526, attributes := #[] }, { accessFlags := 25, nameIndex := 399, descriptorIndex := 155, attributes := #[] }, { accessFlags := 25, nameIndex := 396, descriptorIndex := 155, attributes := #[] }, { accessFlags := 10, nameIndex := 525, descriptorIndex := 526, attributes := #[] }, { accessFlags := 26, nameIndex := 674, descriptorIndex := 12, attributes := #[] }, { accessFlags := 26, nameIndex := 677, descriptorIndex := 12, attributes := #[] }, { accessFlags := 10, nameIndex := 11, descriptorIndex := 12, attributes := #[] }, { accessFlags := 74, nameIndex := 175, descriptorIndex := 176, attributes := #[] }, { accessFlags := 10, nameIndex := 491, descriptorIndex := 222, attributes := #[] }, { accessFlags := 74, nameIndex := 29, descriptorIndex := 30, attributes := #[] }, { accessFlags := 74, nameIndex := 154, descriptorIndex := 155, attributes := #[] }, { accessFlags := 10, nameIndex := 217, descriptorIndex := 218, attributes := #[] }, { accessFlags := 10, nameIndex := 221, descriptorIndex := 222, attributes := #[] }, { accessFlags := 8, nameIndex := 562, descriptorIndex := 563, attributes := #[] }])
  fields := #[{ name := "in", type := (.object "java/io/InputStream"), accessFlags := 25, slot := 0, constantValue := 0 }, { name := "out", type := (.object "java/io/PrintStream"), accessFlags := 25, slot := 1, constantValue := 0 }, { name := "err", type := (.object "java/io/PrintStream"), accessFlags := 25, slot := 2, constantValue := 0 }, { name := "initialIn", type := (.object "java/io/InputStream"), accessFlags := 10, slot := 3, constantValue := 0 }, { name := "NEVER", type := .int, accessFlags := 26, slot := 4, constantValue := 0 }, { name := "MAYBE", type := .int, accessFlags := 26, slot := 5, constantValue := 0 }, { name := "allowSecurityManager", type := .int, accessFlags := 10, slot := 6, constantValue := 0 }, { name := "security", type := (.object "java/lang/SecurityManager"), accessFlags := 74, slot := 7, constantValue := 0 }, { name := "notSupportedJnuEncoding", type := (.object "java/lang/String"), accessFlags := 10, slot := 8, constantValue := 0 }, { name := "cons", type := (.object "java/io/Console"), accessFlags := 74, slot := 9, constantValue := 0 }, { name := "initialErrStream", type := (.object "java/io/PrintStream"), accessFlags := 74, slot := 10, constantValue := 0 }, { name := "props", type := (.object "java/util/Properties"), accessFlags := 10, slot := 11, constantValue := 0 }, { name := "lineSeparator", type := (.object "java/lang/String"), accessFlags := 10, slot := 12, constantValue := 0 }, { name := "bootLayer", type := (.object "java/lang/ModuleLayer"), accessFlags := 8, slot := 13, constantValue := 0 }]
  methods := #[k9m0, k9m1]
  instanceTypes := #[]
  staticTypes := #[(.object "java/io/InputStream"), (.object "java/io/PrintStream"), (.object "java/io/PrintStream"), (.object "java/io/InputStream"), .int, .int, .int, (.object "java/lang/SecurityManager"), (.object "java/lang/String"), (.object "java/io/Console"), (.object "java/io/PrintStream"), (.object "java/util/Properties"), (.object "java/lang/String"), (.object "java/lang/ModuleLayer")]
  resolved := Array.replicate 834 none
  statics := none }

def pool10 : Array CpInfo := pool [(1, u "java/io/Serializable"), (0, .class_ 1), (0, u "java/lang/Object"), (0, .class_ 3)] 3

/-- java/io/Serializable -/
def k10 : Class := { plain "java/io/Serializable" (some 0) with
  accessFlags := 1537
  interfaces := #[]
  cf := some (fileOf pool10 2 #[] #[] 1537 4 #[] #[])
  fields := #[]
  methods := #[]
  instanceTypes := #[]
  staticTypes := #[]
  resolved := Array.replicate 8 none
  statics := none }

/-- the primitive boolean -/
def k11 : Class := { plain "boolean" none with kind := .primitive 'Z', accessFlags := 0x411 }
/-- [Z -/
def k12 : Class := { plain "[Z" (some 0) with kind := .array 11 .boolean, interfaces := #[7, 10], accessFlags := 1041 }

/-- the primitive byte -/
def k13 : Class := { plain "byte" none with kind := .primitive 'B', accessFlags := 0x411 }
/-- [B -/
def k14 : Class := { plain "[B" (some 0) with kind := .array 13 .byte, interfaces := #[7, 10], accessFlags := 1041 }

/-- the primitive double -/
def k15 : Class := { plain "double" none with kind := .primitive 'D', accessFlags := 0x411 }
/-- [D -/
def k16 : Class := { plain "[D" (some 0) with kind := .array 15 .double, interfaces := #[7, 10], accessFlags := 1041 }

/-- the primitive int -/
def k17 : Class := { plain "int" none with kind := .primitive 'I', accessFlags := 0x411 }
/-- [I -/
def k18 : Class := { plain "[I" (some 0) with kind := .array 17 .int, interfaces := #[7, 10], accessFlags := 1041 }

/-- [[D -/
def k19 : Class := { plain "[[D" (some 0) with kind := .array 16 (.array .double), interfaces := #[7, 10], accessFlags := 1041 }

/-- [[I -/
def k20 : Class := { plain "[[I" (some 0) with kind := .array 18 (.array .int), interfaces := #[7, 10], accessFlags := 1041 }

def heap : Heap := #[]
def classes : Array Class := #[k0, k1, k2, k3, k4, k5, k6, k7, k8, k9, k10, k11, k12, k13, k14, k15, k16, k17, k18, k19, k20]
def interned : List (Array UInt16 × Addr) := []
def slotsUsed : Nat := 0
def theMethod : MethodId := ⟨1, 1⟩
def args0 : Array Value := #[.int 5, .int 7, .int 3, .int 2, .int 128, .int 1]
def aboutOver (below : List Frame) : State where
  vm := { classes := classes, interned := interned.toArray }
  heap := heap
  slotsUsed := slotsUsed
  threads := #[{ frames := .invoking theMethod args0 :: below }]
def below0 : List Frame := [.native { method := ⟨0, 0⟩, args := #[] }]
def about1 : State := aboutOver below0
def p0 : Program := .bare "" "" ""
def e0 : Env := launch0.env 0 0 0
theorem w_frames : about1.frames = Frame.invoking theMethod args0 :: below0 := rfl
set_option maxRecDepth 65536 in
theorem w_args : argsFit about1.vm theMethod args0 = true := by decide +kernel
set_option maxRecDepth 65536 in
theorem w_heap : heapFits about1 = true := by decide +kernel
set_option maxRecDepth 65536 in
theorem w_runnable : about1.curStatus? = some .runnable := by decide +kernel
set_option maxRecDepth 65536 in
theorem w_alone : about1.alone = true := by decide +kernel
set_option maxRecDepth 65536 in
theorem w_named : about1.methodNamed? x = some theMethod := by decide +kernel
set_option maxRecDepth 65536 in
theorem w_hears : about1.hears theMethod below0 = true := by decide +kernel
set_option maxRecDepth 65536 in
theorem w_ripe : about1.ripe theMethod args0 below0 = true := by decide +kernel
theorem w_running : about1.status = .running := rfl
set_option maxRecDepth 65536 in
theorem w_room : about1.hasRoom e0.platform room_1 = true :=
  launch0.hasRoom_least _ room_1 (by decide +kernel) (by decide +kernel) (by decide +kernel) (by decide +kernel) (by decide +kernel) (by decide +kernel)
theorem allAtoms_all (ts : List Jvm.Cond) (a : Array Jvm.Value) (st : Jvm.State) : (allAtoms ts).before a st = ts.all (fun c => c.before a st) := by
  induction ts with
  | nil => rfl
  | cons c t ih =>
    show (Jvm.Cond.and c (allAtoms t)).before a st = _
    rw [Jvm.Cond.before_and, ih, List.all_cons]
def words1 : List Jvm.Cond := Jvm.Cond.code x code maxLocals ret :: tables_1
/-- a 'code' word, met by the world's own term for the bytes: nothing is compared byte by byte -/
theorem code_word {y : MethodName} {bytes : ByteArray} {mx : Nat} {rt : Option FieldType} {a : Array Value} {s : State} {m : MethodId} {meth : Method} {c : Code} (h1 : s.methodNamed? y = some m) (h2 : s.vm.method? m = some meth) (h3 : meth.code = some c) (h4 : c.code = bytes)
    (h5 : (c.maxLocals == mx && c.exceptionTable.isEmpty && decide (c.maxStack ≤ mostOperands) && decide (meth.sig.returnType = rt) && !meth.locks && decide (parseMethodDescriptor y.desc = some meth.sig)) = true) : (Jvm.Cond.code y bytes mx rt).before a s = true := by
  simp only [Bool.and_eq_true, beq_iff_eq, Bool.not_eq_true', decide_eq_true_eq] at h5
  obtain ⟨⟨⟨⟨⟨g1, g2⟩, g3⟩, g4⟩, g5⟩, g6⟩ := h5
  simp [Cond.before, Cond.holds, Cond.value, h1, h2, h3, h4, g1, g2, g3, g4, g5, g6]
def isCode : Jvm.Cond → Bool
  | .code _ _ _ _ => true
  | _ => false
theorem all_split {L : List Jvm.Cond} {P : Jvm.Cond → Bool} (h1 : L.all (fun c => isCode c || P c) = true) (h2 : ∀ c ∈ L.filter isCode, P c = true) : L.all P = true := by
  refine List.all_eq_true.mpr fun c hc => ?_
  have h := List.all_eq_true.mp h1 c hc
  rcases Bool.eq_false_or_eq_true (isCode c) with hi | hi
  · exact h2 c (List.mem_filter.mpr ⟨hc, hi⟩)
  · simpa [hi] using h
set_option maxRecDepth 65536 in
theorem w_c0 : (Jvm.Cond.code x code maxLocals ret).before args0 about1 = true := code_word (m := ⟨1, 1⟩) (meth := k1m1) (c := k1c1) (by decide +kernel) rfl rfl rfl (by decide +kernel)
set_option maxRecDepth 65536 in
theorem w_c1 : (Jvm.Cond.code ({ cls := "java/lang/Math", name := "min", desc := "(II)I" } : Jvm.MethodName) jdk_29_method_69_code (2 : Nat) (Option.some Jvm.ClassFile.FieldType.int)).before args0 about1 = true := code_word (m := ⟨2, 3⟩) (meth := k2m3) (c := k2c3) (by decide +kernel) rfl rfl rfl (by decide +kernel)
set_option maxRecDepth 65536 in
theorem w_c2 : (Jvm.Cond.code ({ cls := "com/example/placewright/placewright/solver/RevisedSimplex", name := "<init>", desc := "()V" } : Jvm.MethodName) prog_29_method_1_code (1 : Nat) (Option.none : Option Jvm.ClassFile.FieldType)).before args0 about1 = true := code_word (m := ⟨3, 0⟩) (meth := k3m0) (c := k3c0) (by decide +kernel) rfl rfl rfl (by decide +kernel)
set_option maxRecDepth 65536 in
theorem w_c3 : (Jvm.Cond.code ({ cls := "java/lang/Object", name := "<init>", desc := "()V" } : Jvm.MethodName) object_method_1_code (1 : Nat) (Option.none : Option Jvm.ClassFile.FieldType)).before args0 about1 = true := code_word (m := ⟨0, 0⟩) (meth := k0m0) (c := k0c0) (by decide +kernel) rfl rfl rfl (by decide +kernel)
set_option maxRecDepth 65536 in
theorem w_c4 : (Jvm.Cond.code ({ cls := "com/example/placewright/placewright/solver/BasisFactorization", name := "<init>", desc := "()V" } : Jvm.MethodName) prog_13_method_1_code (1 : Nat) (Option.none : Option Jvm.ClassFile.FieldType)).before args0 about1 = true := code_word (m := ⟨4, 0⟩) (meth := k4m0) (c := k4c0) (by decide +kernel) rfl rfl rfl (by decide +kernel)
set_option maxRecDepth 65536 in
theorem w_c5 : (Jvm.Cond.code ({ cls := "com/example/placewright/placewright/solver/BasisFactorization$Entries", name := "<init>", desc := "()V" } : Jvm.MethodName) prog_16_method_1_code (1 : Nat) (Option.none : Option Jvm.ClassFile.FieldType)).before args0 about1 = true := code_word (m := ⟨5, 0⟩) (meth := k5m0) (c := k5c0) (by decide +kernel) rfl rfl rfl (by decide +kernel)
set_option maxRecDepth 65536 in
theorem w_c6 : (Jvm.Cond.code ({ cls := "com/example/placewright/placewright/solver/BasisFactorization$Lists", name := "<init>", desc := "(I)V" } : Jvm.MethodName) prog_17_method_1_code (3 : Nat) (Option.none : Option Jvm.ClassFile.FieldType)).before args0 about1 = true := code_word (m := ⟨6, 0⟩) (meth := k6m0) (c := k6c0) (by decide +kernel) rfl rfl rfl (by decide +kernel)
set_option maxRecDepth 65536 in
theorem w_c7 : (Jvm.Cond.code ({ cls := "com/example/placewright/placewright/solver/RevisedSimplex", name := "objective", desc := "()D" } : Jvm.MethodName) prog_29_method_11_code (4 : Nat) (Option.some Jvm.ClassFile.FieldType.double)).before args0 about1 = true := code_word (m := ⟨3, 5⟩) (meth := k3m5) (c := k3c5) (by decide +kernel) rfl rfl rfl (by decide +kernel)
set_option maxRecDepth 65536 in
theorem w_c8 : (Jvm.Cond.code ({ cls := "com/example/placewright/placewright/solver/RevisedSimplex", name := "addRow", desc := "(D[I[DDD)I" } : Jvm.MethodName) prog_29_method_3_code (15 : Nat) (Option.some Jvm.ClassFile.FieldType.int)).before args0 about1 = true := code_word (m := ⟨3, 2⟩) (meth := k3m2) (c := k3c2) (by decide +kernel) rfl rfl rfl (by decide +kernel)
set_option maxRecDepth 65536 in
theorem w_c9 : (Jvm.Cond.code ({ cls := "java/lang/Math", name := "max", desc := "(II)I" } : Jvm.MethodName) jdk_29_method_65_code (2 : Nat) (Option.some Jvm.ClassFile.FieldType.int)).before args0 about1 = true := code_word (m := ⟨2, 1⟩) (meth := k2m1) (c := k2c1) (by decide +kernel) rfl rfl rfl (by decide +kernel)
set_option maxRecDepth 65536 in
theorem w_c10 : (Jvm.Cond.code ({ cls := "com/example/placewright/placewright/solver/RevisedSimplex", name := "addColumn", desc := "([I[DD)I" } : Jvm.MethodName) prog_29_method_2_code (7 : Nat) (Option.some Jvm.ClassFile.FieldType.int)).before args0 about1 = true := code_word (m := ⟨3, 1⟩) (meth := k3m1) (c := k3c1) (by decide +kernel) rfl rfl rfl (by decide +kernel)
set_option maxRecDepth 65536 in
theorem w_c11 : (Jvm.Cond.code ({ cls := "com/example/placewright/placewright/solver/RevisedSimplex", name := "addToRow", desc := "(IID)V" } : Jvm.MethodName) prog_29_method_4_code (5 : Nat) (Option.none : Option Jvm.ClassFile.FieldType)).before args0 about1 = true := code_word (m := ⟨3, 3⟩) (meth := k3m3) (c := k3c3) (by decide +kernel) rfl rfl rfl (by decide +kernel)
set_option maxRecDepth 65536 in
theorem w_c12 : (Jvm.Cond.code ({ cls := "com/example/placewright/placewright/solver/RevisedSimplex", name := "list", desc := "(I)V" } : Jvm.MethodName) prog_29_method_32_code (2 : Nat) (Option.none : Option Jvm.ClassFile.FieldType)).before args0 about1 = true := code_word (m := ⟨3, 7⟩) (meth := k3m7) (c := k3c7) (by decide +kernel) rfl rfl rfl (by decide +kernel)
set_option maxRecDepth 65536 in
theorem w_c13 : (Jvm.Cond.code ({ cls := "com/example/placewright/placewright/solver/RevisedSimplex", name := "prices", desc := "(I)Z" } : Jvm.MethodName) prog_29_method_31_code (2 : Nat) (Option.some Jvm.ClassFile.FieldType.boolean)).before args0 about1 = true := code_word (m := ⟨3, 6⟩) (meth := k3m6) (c := k3c6) (by decide +kernel) rfl rfl rfl (by decide +kernel)
set_option maxRecDepth 65536 in
theorem w_c14 : (Jvm.Cond.code ({ cls := "java/lang/Math", name := "max", desc := "(DD)D" } : Jvm.MethodName) jdk_29_method_68_code (4 : Nat) (Option.some Jvm.ClassFile.FieldType.double)).before args0 about1 = true := code_word (m := ⟨2, 2⟩) (meth := k2m2) (c := k2c2) (by decide +kernel) rfl rfl rfl (by decide +kernel)
set_option maxRecDepth 65536 in
theorem w_c15 : (Jvm.Cond.code ({ cls := "com/example/placewright/placewright/solver/RevisedSimplex", name := "setCost", desc := "(ID)V" } : Jvm.MethodName) prog_29_method_6_code (4 : Nat) (Option.none : Option Jvm.ClassFile.FieldType)).before args0 about1 = true := code_word (m := ⟨3, 4⟩) (meth := k3m4) (c := k3c4) (by decide +kernel) rfl rfl rfl (by decide +kernel)
set_option maxRecDepth 65536 in
theorem w_c16 : (Jvm.Cond.code ({ cls := "java/util/Arrays", name := "copyOf", desc := "([II)[I" } : Jvm.MethodName) jdk_65_method_123_code (3 : Nat) (Option.some (Jvm.ClassFile.FieldType.array Jvm.ClassFile.FieldType.int))).before args0 about1 = true := code_word (m := ⟨8, 1⟩) (meth := k8m1) (c := k8c1) (by decide +kernel) rfl rfl rfl (by decide +kernel)
set_option maxRecDepth 65536 in
theorem w_c17 : (Jvm.Cond.code ({ cls := "java/util/Arrays", name := "copyOf", desc := "([DI)[D" } : Jvm.MethodName) jdk_65_method_127_code (3 : Nat) (Option.some (Jvm.ClassFile.FieldType.array Jvm.ClassFile.FieldType.double))).before args0 about1 = true := code_word (m := ⟨8, 2⟩) (meth := k8m2) (c := k8c2) (by decide +kernel) rfl rfl rfl (by decide +kernel)
def codes1 : List Jvm.Cond := [Jvm.Cond.code x code maxLocals ret, Jvm.Cond.code ({ cls := "java/lang/Math", name := "min", desc := "(II)I" } : Jvm.MethodName) jdk_29_method_69_code (2 : Nat) (Option.some Jvm.ClassFile.FieldType.int), Jvm.Cond.code ({ cls := "com/example/placewright/placewright/solver/RevisedSimplex", name := "<init>", desc := "()V" } : Jvm.MethodName) prog_29_method_1_code (1 : Nat) (Option.none : Option Jvm.ClassFile.FieldType), Jvm.Cond.code ({ cls := "java/lang/Object", name := "<init>", desc := "()V" } : Jvm.MethodName) object_method_1_code (1 : Nat) (Option.none : Option Jvm.ClassFile.FieldType), Jvm.Cond.code ({ cls := "com/example/placewright/placewright/solver/BasisFactorization", name := "<init>", desc := "()V" } : Jvm.MethodName) prog_13_method_1_code (1 : Nat) (Option.none : Option Jvm.ClassFile.FieldType), Jvm.Cond.code ({ cls := "com/example/placewright/placewright/solver/BasisFactorization$Entries", name := "<init>", desc := "()V" } : Jvm.MethodName) prog_16_method_1_code (1 : Nat) (Option.none : Option Jvm.ClassFile.FieldType), Jvm.Cond.code ({ cls := "com/example/placewright/placewright/solver/BasisFactorization$Lists", name := "<init>", desc := "(I)V" } : Jvm.MethodName) prog_17_method_1_code (3 : Nat) (Option.none : Option Jvm.ClassFile.FieldType), Jvm.Cond.code ({ cls := "com/example/placewright/placewright/solver/RevisedSimplex", name := "objective", desc := "()D" } : Jvm.MethodName) prog_29_method_11_code (4 : Nat) (Option.some Jvm.ClassFile.FieldType.double), Jvm.Cond.code ({ cls := "com/example/placewright/placewright/solver/RevisedSimplex", name := "addRow", desc := "(D[I[DDD)I" } : Jvm.MethodName) prog_29_method_3_code (15 : Nat) (Option.some Jvm.ClassFile.FieldType.int), Jvm.Cond.code ({ cls := "java/lang/Math", name := "max", desc := "(II)I" } : Jvm.MethodName) jdk_29_method_65_code (2 : Nat) (Option.some Jvm.ClassFile.FieldType.int), Jvm.Cond.code ({ cls := "com/example/placewright/placewright/solver/RevisedSimplex", name := "addColumn", desc := "([I[DD)I" } : Jvm.MethodName) prog_29_method_2_code (7 : Nat) (Option.some Jvm.ClassFile.FieldType.int), Jvm.Cond.code ({ cls := "com/example/placewright/placewright/solver/RevisedSimplex", name := "addToRow", desc := "(IID)V" } : Jvm.MethodName) prog_29_method_4_code (5 : Nat) (Option.none : Option Jvm.ClassFile.FieldType), Jvm.Cond.code ({ cls := "com/example/placewright/placewright/solver/RevisedSimplex", name := "list", desc := "(I)V" } : Jvm.MethodName) prog_29_method_32_code (2 : Nat) (Option.none : Option Jvm.ClassFile.FieldType), Jvm.Cond.code ({ cls := "com/example/placewright/placewright/solver/RevisedSimplex", name := "prices", desc := "(I)Z" } : Jvm.MethodName) prog_29_method_31_code (2 : Nat) (Option.some Jvm.ClassFile.FieldType.boolean), Jvm.Cond.code ({ cls := "java/lang/Math", name := "max", desc := "(DD)D" } : Jvm.MethodName) jdk_29_method_68_code (4 : Nat) (Option.some Jvm.ClassFile.FieldType.double), Jvm.Cond.code ({ cls := "com/example/placewright/placewright/solver/RevisedSimplex", name := "setCost", desc := "(ID)V" } : Jvm.MethodName) prog_29_method_6_code (4 : Nat) (Option.none : Option Jvm.ClassFile.FieldType), Jvm.Cond.code ({ cls := "java/util/Arrays", name := "copyOf", desc := "([II)[I" } : Jvm.MethodName) jdk_65_method_123_code (3 : Nat) (Option.some (Jvm.ClassFile.FieldType.array Jvm.ClassFile.FieldType.int)), Jvm.Cond.code ({ cls := "java/util/Arrays", name := "copyOf", desc := "([DI)[D" } : Jvm.MethodName) jdk_65_method_127_code (3 : Nat) (Option.some (Jvm.ClassFile.FieldType.array Jvm.ClassFile.FieldType.double))]
set_option maxRecDepth 65536 in
theorem codes_eq : words1.filter isCode = codes1 := rfl
theorem w_codes : ∀ c ∈ words1.filter isCode, c.before args0 about1 = true := by
  rw [codes_eq]
  intro c hc
  simp only [codes1, List.mem_cons, List.not_mem_nil, or_false] at hc
  rcases hc with rfl | rfl | rfl | rfl | rfl | rfl | rfl | rfl | rfl | rfl | rfl | rfl | rfl | rfl | rfl | rfl | rfl | rfl
  · exact w_c0
  · exact w_c1
  · exact w_c2
  · exact w_c3
  · exact w_c4
  · exact w_c5
  · exact w_c6
  · exact w_c7
  · exact w_c8
  · exact w_c9
  · exact w_c10
  · exact w_c11
  · exact w_c12
  · exact w_c13
  · exact w_c14
  · exact w_c15
  · exact w_c16
  · exact w_c17
set_option maxRecDepth 65536 in
theorem w_t1 : (words1.take 24).all (fun c => isCode c || c.before args0 about1) = true := by decide +kernel
set_option maxRecDepth 65536 in
theorem w_t2 : ((words1.drop 24).take 24).all (fun c => isCode c || c.before args0 about1) = true := by decide +kernel
set_option maxRecDepth 65536 in
theorem w_t3 : (((words1.drop 24).drop 24).take 24).all (fun c => isCode c || c.before args0 about1) = true := by decide +kernel
set_option maxRecDepth 65536 in
theorem w_t4 : ((((words1.drop 24).drop 24).drop 24).take 24).all (fun c => isCode c || c.before args0 about1) = true := by decide +kernel
set_option maxRecDepth 65536 in
theorem w_t5 : (((((words1.drop 24).drop 24).drop 24).drop 24).take 24).all (fun c => isCode c || c.before args0 about1) = true := by decide +kernel
set_option maxRecDepth 65536 in
theorem w_t6 : ((((((words1.drop 24).drop 24).drop 24).drop 24).drop 24).take 24).all (fun c => isCode c || c.before args0 about1) = true := by decide +kernel
set_option maxRecDepth 65536 in
theorem w_t7 : (((((((words1.drop 24).drop 24).drop 24).drop 24).drop 24).drop 24).take 24).all (fun c => isCode c || c.before args0 about1) = true := by decide +kernel
set_option maxRecDepth 65536 in
theorem w_t8 : (((((((words1.drop 24).drop 24).drop 24).drop 24).drop 24).drop 24).drop 24).all (fun c => isCode c || c.before args0 about1) = true := by decide +kernel
theorem w_tables : (allAtoms (Jvm.Cond.code x code maxLocals ret :: tables_1)).before args0 about1 = true := by
  rw [allAtoms_all]
  show words1.all (fun c => c.before args0 about1) = true
  refine all_split ?_ w_codes
  rw [← List.take_append_drop 24 words1, List.all_append, w_t1, ← List.take_append_drop 24 (words1.drop 24), List.all_append, w_t2, ← List.take_append_drop 24 ((words1.drop 24).drop 24), List.all_append, w_t3, ← List.take_append_drop 24 (((words1.drop 24).drop 24).drop 24), List.all_append, w_t4, ← List.take_append_drop 24 ((((words1.drop 24).drop 24).drop 24).drop 24), List.all_append, w_t5, ← List.take_append_drop 24 (((((words1.drop 24).drop 24).drop 24).drop 24).drop 24), List.all_append, w_t6, ← List.take_append_drop 24 ((((((words1.drop 24).drop 24).drop 24).drop 24).drop 24).drop 24), List.all_append, w_t7, w_t8]
  rfl
set_option maxRecDepth 65536 in
theorem w_case : (Jvm.Cond.and given_1 narrow_1).before args0 about1 = true := by decide +kernel
theorem w_applies : (headSpec (Jvm.Cond.code x code maxLocals ret :: tables_1) room_1).applies x e0.platform about1 = true :=
  (Spec.applies_iff w_frames).mpr ⟨w_running, w_runnable, w_alone, w_named, w_hears, w_ripe, w_room, w_tables⟩
theorem atStart : AtStart classFile x code maxLocals ret World_1 tables_1 room_1 Calls_1 rest_1 Pre_1 launch0 p0 e0 about1 theMethod args0 below0 :=
  ⟨lists_1, trivial, launch0.admits_env _ _ _, launch0.least_env, fairChoices_fair.cas, fairChoices_fair.clock, w_frames, w_args, w_heap, w_applies, trivial, trivial, w_case⟩
end start1
theorem witness_1 : WitnessClaimed_1 := ⟨start1.p0, start1.e0, start1.about1, start1.theMethod, start1.args0, start1.below0, start1.atStart⟩
end Jvm.Pilot.@@N@@
