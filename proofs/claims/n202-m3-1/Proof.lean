import JvmDerived
import JvmDerived.Pilot.@@N@@Statement
import JvmDerived.Pilot.@@N@@Code
set_option linter.unusedVariables false
set_option linter.unusedSimpArgs false
set_option maxRecDepth 65536
set_option maxHeartbeats 40000000
namespace Jvm.RoadKit
open Sem ClassFile Op Lib Jvm.Stand Jvm.Free Jvm.LawKit
section New
variable {p : Program} {l : Launch} {e : Env} {R : Room} {s : State} {m : MethodId} {args : Array Value} {below : List Frame} {meth : Method} {c : Code} {T : State} {locs : List Loc} {cells slots : Nat}
theorem retI (X : Stand p l e R s m args below meth c T locs cells slots) (hx : p.tables.exec = Jvm.exec) {pc : Nat} {Ls : Array Slot} {z : Int32} {rest : List Value} (hret : meth.sig.returnType = some .int) (hd : decode c.code pc = .ok (.ireturn, 1)) {fs : List Frame}
    (hl : ∀ (f : JFrame) (acts : List Action), f.method = m → f.locked = none → f.entered = [] → (doReturn e (T.setTop f) acts (some (.int z))).1 = T.setFrames fs) : Steps p.tables e below (T.setTop (mkF m pc Ls (.int z :: rest))) (T.setFrames fs) := by
  have hm' : T.vm.method? m = some meth := X.method'
  have hn : narrow .int (.int z) = .int z := rfl
  show Steps p.tables e below (T.setTop { method := m, pc := pc, locals := Ls, stack := _ :: rest, locked := none }) _
  jvm_step X.here [X.here.top, hx, hd, hm', hret, hn]
  first | (intro acts; rw [hl _ acts rfl rfl rfl]) | rw [hl _ _ rfl rfl rfl]
  exact Steps.refl _
end New
end Jvm.RoadKit
namespace Jvm.Pilot.@@N@@
open Jvm Jvm.ClassFile Sem Op Lib Jvm.Free Jvm.Stand Jvm.LawKit Jvm.RoadKit Bundle Jvm.Pilot.@@N@@.Jvm.D
theorem own_w {Z : State} {a0 : Array Value} (hw : ∀ d ∈ tables_1, d.before a0 Z = true) (k : Nat) {d : Jvm.Cond} (h : tables_1[k]? = some d) : d.before a0 Z = true := hw _ (List.mem_of_getElem? h)
abbrev own_R (f c s l : Nat) : Room := { frames := f, cells := c, slots := s, locals := l }
abbrev vU : Slot := .unset
abbrev vS : Slot := .second
abbrev vN : Slot := .val .null
abbrev vI (x : Int32) : Slot := .val (.int x)
abbrev vJ (x : Int64) : Slot := .val (.long x)
abbrev vR (x : Addr) : Slot := .val (.ref x)
abbrev vV (x : Value) : Slot := .val x
abbrev Go (p : Program) (e : Env) (below : List Frame) (T : State) (f : JFrame) (t : State) : Prop := Steps p.tables e below (T.setTop f) t
theorem own_and255L (x : Int32) : ¬ (x &&& (255 : Int32)) < 0 ∧ ¬ (255 : Int32) < (x &&& (255 : Int32)) := by
  have h1 := c_mask x 255 8 (by decide) (by decide)
  have e1 : (255 : Int32).toInt = 255 := rfl
  rw [Int32.lt_iff_toInt_lt, Int32.lt_iff_toInt_lt, Int32.toInt_zero]
  constructor <;> omega
theorem own_narR {v : Value} (t : FieldType) (ht : t.isReference = true) (hv : v.isRef = true) : narrow t v = v := by cases t <;> cases v <;> simp_all [narrow, FieldType.isReference, Value.isRef]
abbrev OwnMet (l : Launch) (y : MethodName) (ws : List Jvm.Cond) (rm : Room) (A : Array Value) (Z : State) (h0 : Heap) (Q : Option Value → Heap → List Loc → Prop) : Prop :=
  MetFree l y (head1 ws rm) (fun a U => a = A ∧ Z.Warmed39 U.vm ∧ U.heap = h0) (fun _ _ _ _ _ => True) (fun _ U o U' => ∃ v L, o = .returned v ∧ Q v U'.heap L ∧ FrameEnd U o U' L rm.cells rm.slots)
theorem own_body {l : Launch} {y : MethodName} {ws : List Jvm.Cond} {rm : Room} {bytes : ByteArray} {maxL : Nat} {ret : Option FieldType} {A : Array Value} {Z : State} {h0 : Heap} {Q : Option Value → Heap → List Loc → Prop} (hp : plainFor y = true)
    (his : ∀ args (s : State) m, (head1 ws rm).pre.before args s = true → s.methodNamed? y = some m → ∃ meth c, s.vm.method? m = some meth ∧ meth.code = some c ∧ c.code = bytes ∧ c.maxLocals = maxL ∧ meth.sig.returnType = ret ∧ meth.locks = false)
    (body : ∀ (p : Program) (e : Env) (s : State) (m : MethodId) (below : List Frame) (meth : Method) (c : Code) (s₁ : State), p.tables.exec = Jvm.exec → c.code = bytes → c.maxLocals = maxL → s.vm.findClass y.cls = some m.cls → meth.name = y.name → meth.sig.returnType = ret → Z.Warmed39 s.vm → Stand p l e rm s m A below meth c s₁ [] 0 0 → s₁.heap = h0 →
      ∃ (v : Option Value) (T : State) (locs : List Loc) (cells slots : Nat) (f : JFrame), Stand p l e rm s m A below meth c T locs cells slots ∧ cells ≤ rm.cells ∧ slots ≤ rm.slots ∧ (ret = none → v = none) ∧ (∀ t, Go p e below T f t → Go p e below s₁ (entryFrame m A maxL) t) ∧
        (∀ fs, (∀ (f : JFrame) (acts : List Action), f.method = m → f.locked = none → f.entered = [] → (doReturn e (T.setTop f) acts v).1 = T.setFrames fs) → Go p e below T f (T.setFrames fs)) ∧ Q v T.heap locs) :
    MetFree l y (head1 ws rm) (fun a U => a = A ∧ Z.Warmed39 U.vm ∧ U.heap = h0) (fun _ _ _ _ _ => True) (fun _ U o U' => ∃ v L, o = .returned v ∧ Q v U'.heap L ∧ FrameEnd U o U' L rm.cells rm.slots) := by
  refine MetFree.of_bodySF hp his ?_
  intro p e s m args below meth c s₁ Bd hml0 hP hK
  obtain ⟨rfl, hZ, hh⟩ := hP
  obtain ⟨v, T, locs, cells, slots, f, X, hc, hs, hv, q, hf, hQ⟩ := body p e s m below meth c s₁ Bd.exec Bd.bytes hml0 (findClass_of_methodNamed Bd.named) (name_of_methodNamed Bd.named Bd.method).1 Bd.returns hZ (Stand.of_body Bd) (by rw [← hh, Bd.state]; rfl)
  obtain ⟨fs, hr, hrun, hended, hW, hsame⟩ := X.leave (v := v) (fun h => hv (Bd.returns ▸ h))
  exact ⟨_, _, q _ (hf fs hr), hrun, hended, v, locs, rfl, hQ, ⟨_, rfl⟩, hW, hsame.mono hc hs⟩
theorem own_eqI {args : Array Value} {Z : State} {t : Term} {k : Int32} (h : (Jvm.Cond.eq t (Term.int k)).value args Z none Z [] = some true) : t.eval args Z none [] Z = some (.int k) := by
  obtain ⟨x, y, e1, e2, k1, k2⟩ := cmp_v (Or.inl h)
  rw [Term.int_eval] at e2; cases Option.some.inj e2
  cases x <;> first | (obtain ⟨z, hz⟩ := k2; cases hz; simp [Cond.value, e1, Term.int_eval] at h; rw [e1, h]) | (obtain ⟨z, hz⟩ := k2; cases hz)
theorem own_fldI {args : Array Value} {Z : State} {t : Term} {k : Int32} {C n d : String} {w : Addr} (ht : t.eval args Z none [] Z = some (.ref w)) (h : (Jvm.Cond.eq (Term.field t C n d) (Term.int k)).value args Z none Z [] = some true) : Fld Z Z.heap w C n d (.int k) :=
  Fld.start ((fld_at ht).symm.trans (own_eqI h))
theorem own_specialRef {p : Program} {l : Launch} {e : Env} {R : Room} {s : State} {m : MethodId} {args : Array Value} {below : List Frame} {meth : Method} {c : Code} {T : State} {locs : List Loc} {cells slots : Nat} (X : Stand p l e R s m args below meth c T locs cells slots) (hexec : p.tables.exec = Jvm.exec) {Z : State} {a0 : Array Value} (hZ : Z.Warmed39 s.vm) {own : String} {index : Nat} {y : MethodName} (hy1 : y.name = "<init>")
    (hown : s.vm.findClass own = some m.cls) (href : (Cond.methodRef own index y).before a0 Z = true) (hinst : (Cond.instanceMethod y).before a0 Z = true)
    {bytes : ByteArray} {maxL : Nat} (hcode : (Cond.code y bytes maxL none).before a0 Z = true)
    (hy : y.cls ≠ "java/lang/invoke/MethodHandle" ∧ y.cls ≠ "java/lang/invoke/VarHandle")
    {W : Nat} {Pre : Pt → Array Value → Prop} {Post : Pt → Array Value → Option Value → Pt → Prop} (hK : Back l R p e below s args y 3 W Pre Post)
    {g : JFrame} (hg : g.method = m) (hsize : g.locals.size = c.maxLocals) {s₀ : State} (hcome : Steps p.tables e below s₀ (T.setTop g)) {a : Addr} {argsL rest : List Value}
    (hlen : ∀ sig, parseMethodDescriptor y.desc = some sig → argsL.length = sig.parameters.length) (hstack : g.stack = argsL.reverse ++ .ref a :: rest) (hW : 2 * g.monitorRoom + (rest.map fun v => v.category).sum ≤ W)
    (hdg : decode c.code g.pc = .ok (.invokespecial index, 3)) (hpre : ∀ vm₁, s.WarmedH vm₁ → Pre ⟨T.setVm vm₁, locs, cells, slots⟩ (.ref a :: argsL).toArray) :
    ∃ (v : Option Value) (vm₁ : Vm) (B : Pt), s.WarmedH vm₁ ∧ Stand p l e R s m args below meth c B.U B.locs B.cells B.slots ∧ Post ⟨T.setVm vm₁, locs, cells, slots⟩ (.ref a :: argsL).toArray v B ∧
      Steps p.tables e below s₀ (B.U.setTop { g with pc := g.pc + 3, stack := v.toList ++ rest }) := by
  subst hg
  have hZT : Z.Warmed39 T.vm := hZ.trans X.warmed.wide
  obtain ⟨obj, methO, hnO, hmO, hstO, habO⟩ := Cond.instanceMethod_spec hinst
  obtain ⟨methO', cO, hmO', hcO, hbO, hlO, -, hlockO, -, hsigO⟩ := Cond.code_spec hnO hcode
  cases hmO.symm.trans hmO'
  obtain ⟨kO, hkO, hnameO⟩ := className_of_methodNamed hnO
  obtain ⟨hnameMO, hdescO⟩ := name_of_methodNamed hnO hmO
  have href' := Cond.methodRef_warmed39 hZT hnO hy href
  have hcur : (Z.setVm T.vm).vm.findClass own = some g.method.cls := by
    show T.vm.findClass own = _
    rw [X.warmed.alike.findClass]; exact hown
  obtain ⟨r, cF, hf, hready, hfind, hnamed⟩ := Cond.methodRef_named e hcur href'
  have hn2 : (Z.setVm T.vm).methodNamed? y = some obj := by rw [State.methodNamed?_setVm hZT.alike]; exact hnO
  have hnS : s.methodNamed? y = some obj := by
    have q := State.methodNamed?_setVm hZ.alike y
    rw [hnO] at q; exact q
  cases hf.symm.trans (State.methodFound?_of_named hn2 hy)
  cases hfind.symm.trans (findClass_of_methodNamed hn2)
  obtain ⟨kO₂, hkO₂, heO₂⟩ := hZT.alike.2.2 _ _ hkO
  have hmO₂ : T.vm.method? obj = some methO := by rw [hZT.alike.method?]; exact hmO
  have hfound : lookupSpecial T.vm obj.cls "<init>" methO.desc = .method obj := by
    rw [hZT.alike.lookupSpecial, hdescO, ← hy1]; exact lookupSpecial_of_named hnO hmO hstO
  have X₁ := X.noted X.warmed
  obtain ⟨v, B, X', hpost, hsteps⟩ := hK g.method meth c ⟨T.setVm T.vm, locs, cells, slots⟩ { g with stack := rest } (.invokespecial index) obj (.ref a :: argsL).toArray X₁ rfl hsize hdg hW (X₁.named hnS) (hpre T.vm X.warmed)
  refine ⟨v, T.vm, B, X.warmed, X', hpost, (hcome.trans ?_).trans hsteps⟩
  jvm_step X.here [hexec, hdg, invokespecial.wp_init (e := e) (s := T) (k := kO₂) (meth := methO) (m := obj) (a := a) (args := argsL) (rest := rest) (f := g) X.here.top hnamed hready hkO₂ hmO₂ (by rw [hnameMO]; exact hy1) hstO habO hfound (hlen _ hsigO) hstack]
  intro acts
  rw [doInvoke_state]
  exact Steps.refl _
def Cx (Z : State) (w_NB : Addr) (w_NW : Addr) (w_EL : Addr) : Prop := Sta Z Z.heap "com/example/pointward/pointward/pointsto/SiteSet" "NO_BLOCKS" "[I" (.ref w_NB) ∧ Sta Z Z.heap "com/example/pointward/pointward/pointsto/SiteSet" "NO_WORDS" "[J" (.ref w_NW) ∧ Sta Z Z.heap "java/util/ImmutableCollections" "EMPTY_LIST" "Ljava/util/ImmutableCollections$ListN;" (.ref w_EL)
def own_pr (s j : Nat) : Nat := (s + j) % 16
def own_up1 {α : Type} (f : Nat → α) (i : Nat) (x : α) : Nat → α := fun j => if j = i then x else f j
def own_upM (M : Int64 → Option Addr) (k : Int64) (a : Addr) : Int64 → Option Addr := fun j => if j = k then some a else M j
theorem own_up1_at {α : Type} (f : Nat → α) (i : Nat) (x : α) : own_up1 f i x i = x := if_pos rfl
theorem own_up1_ne {α : Type} (f : Nat → α) {i j : Nat} (x : α) (h : j ≠ i) : own_up1 f i x j = f j := if_neg h
theorem own_upM_at (M : Int64 → Option Addr) (k : Int64) (a : Addr) : own_upM M k a k = some a := if_pos rfl
theorem own_upM_ne (M : Int64 → Option Addr) {k j : Int64} (a : Addr) (h : j ≠ k) : own_upM M k a j = M j := if_neg h
def own_Inv (sl : Int64 → Nat) (K : Nat → Int64) (V : Nat → Option Addr) (M : Int64 → Option Addr) (l : List Nat) : Prop :=
  (∀ i, i < 16 → ∀ a, V i = some a → M (K i) = some a) ∧
  (∀ k a, M k = some a → ∃ j, j < 16 ∧ V (own_pr (sl k) j) = some a ∧ K (own_pr (sl k) j) = k ∧ ∀ i, i < j → (∃ a', V (own_pr (sl k) i) = some a') ∧ K (own_pr (sl k) i) ≠ k) ∧
  (∀ i, i < 16 → V i ≠ none → i ∈ l)
theorem own_free {l : List Nat} (hl : l.length ≤ 3) (s : Nat) {V : Nat → Option Addr} (h : ∀ i, i < 16 → V i ≠ none → i ∈ l) : ∃ j, j < 4 ∧ V (own_pr s j) = none := by
  apply Classical.byContradiction; intro hn
  have m : ∀ j, j < 4 → own_pr s j ∈ l := fun j hj => h _ (Nat.mod_lt _ (by decide)) (fun e => hn ⟨j, hj, e⟩)
  have m0 := m 0 (by decide)
  have m1 := m 1 (by decide)
  have m2 := m 2 (by decide)
  have m3 := m 3 (by decide)
  unfold own_pr at m0 m1 m2 m3
  match l, hl with
  | [], _ => simp at m0
  | [a], _ => simp at m0 m1; omega
  | [a, b], _ => simp at m0 m1 m2; omega
  | [a, b, c], _ => simp at m0 m1 m2 m3; omega
  | _ :: _ :: _ :: _ :: _, hl => simp at hl
theorem own_least (P : Nat → Prop) : ∀ n, P n → ∃ j, j ≤ n ∧ P j ∧ ∀ i, i < j → ¬ P i := by
  intro n
  induction n using Nat.strongRecOn with
  | _ n ih =>
    intro hP
    by_cases h : ∃ i, i < n ∧ P i
    · obtain ⟨i, hi, hPi⟩ := h
      obtain ⟨j, h1, h2, h3⟩ := ih i hi hPi
      exact ⟨j, by omega, h2, h3⟩
    · exact ⟨n, Nat.le_refl _, hP, fun i hi hPi => h ⟨i, hi, hPi⟩⟩
theorem own_probe {sl : Int64 → Nat} {K : Nat → Int64} {V : Nat → Option Addr} {M : Int64 → Option Addr} {l : List Nat} (I : own_Inv sl K V M l) (hl : l.length ≤ 3) (k : Int64) :
    ∃ j, j < 16 ∧ (∀ i, i < j → (∃ a', V (own_pr (sl k) i) = some a') ∧ K (own_pr (sl k) i) ≠ k) ∧
      ((V (own_pr (sl k) j) = none ∧ M k = none) ∨ ∃ a, V (own_pr (sl k) j) = some a ∧ K (own_pr (sl k) j) = k ∧ M k = some a) := by
  cases hM : M k with
  | none =>
    obtain ⟨n, hn, hV⟩ := own_free hl (sl k) I.2.2
    obtain ⟨j, h1, h2, h3⟩ := own_least (fun j => V (own_pr (sl k) j) = none) n hV
    refine ⟨j, by omega, fun i hi => ?_, Or.inl ⟨h2, rfl⟩⟩
    cases hv : V (own_pr (sl k) i) with
    | none => exact absurd hv (h3 i hi)
    | some a' =>
      refine ⟨⟨a', rfl⟩, fun e => ?_⟩
      have := I.1 (own_pr (sl k) i) (Nat.mod_lt _ (by decide)) a' hv
      rw [e, hM] at this
      cases this
  | some a =>
    obtain ⟨j, h1, h2, h3, h4⟩ := I.2.1 k a hM
    exact ⟨j, h1, h4, Or.inr ⟨a, h2, h3, rfl⟩⟩
theorem own_inv0 (sl : Int64 → Nat) (K : Nat → Int64) : own_Inv sl K (fun _ => none) (fun _ => none) [] :=
  ⟨fun _ _ _ h => by (cases h), fun _ _ h => by (cases h), fun _ _ h => absurd rfl h⟩
theorem own_put {sl : Int64 → Nat} {K : Nat → Int64} {V : Nat → Option Addr} {M : Int64 → Option Addr} {l : List Nat} (I : own_Inv sl K V M l) {k : Int64} {a : Addr} {j : Nat} (hj : j < 16)
    (hb : ∀ i, i < j → (∃ a', V (own_pr (sl k) i) = some a') ∧ K (own_pr (sl k) i) ≠ k) (hv : V (own_pr (sl k) j) = none) (hM : M k = none) :
    own_Inv sl (own_up1 K (own_pr (sl k) j) k) (own_up1 V (own_pr (sl k) j) (some a)) (own_upM M k a) (own_pr (sl k) j :: l) := by
  refine ⟨fun i hi b hb' => ?_, fun k' b hb' => ?_, fun i hi h => ?_⟩
  · by_cases e : i = own_pr (sl k) j
    · rw [e] at hb' ⊢
      rw [own_up1_at] at hb' ⊢
      rw [own_upM_at]; exact hb'
    · rw [own_up1_ne _ _ e] at hb' ⊢
      have h1 := I.1 i hi b hb'
      have : K i ≠ k := fun z => by rw [z, hM] at h1; cases h1
      rw [own_upM_ne _ _ this]; exact h1
  · by_cases e : k' = k
    · subst e
      rw [own_upM_at] at hb'
      refine ⟨j, hj, by rw [own_up1_at]; exact hb', own_up1_at _ _ _, fun i hi => ?_⟩
      have hne : own_pr (sl k') i ≠ own_pr (sl k') j := by unfold own_pr; omega
      rw [own_up1_ne _ _ hne, own_up1_ne _ _ hne]; exact hb i hi
    · rw [own_upM_ne _ _ e] at hb'
      obtain ⟨j', h1, h2, h3, h4⟩ := I.2.1 k' b hb'
      have hne : own_pr (sl k') j' ≠ own_pr (sl k) j := fun z => by rw [z, hv] at h2; cases h2
      refine ⟨j', h1, by rw [own_up1_ne _ _ hne]; exact h2, by rw [own_up1_ne _ _ hne]; exact h3, fun i hi => ?_⟩
      by_cases z : own_pr (sl k') i = own_pr (sl k) j
      · rw [z, own_up1_at, own_up1_at]; exact ⟨⟨a, rfl⟩, fun q => e q.symm⟩
      · rw [own_up1_ne _ _ z, own_up1_ne _ _ z]; exact h4 i hi
  · by_cases e : i = own_pr (sl k) j
    · exact e ▸ List.mem_cons_self ..
    · rw [own_up1_ne _ _ e] at h; exact List.mem_cons_of_mem _ (I.2.2 i hi h)
/-- the key of a field's node -/
def own_key (s f : Int32) : Int64 := (s.toInt64 <<< ((32 : Int32) &&& 0x3f).toInt64) ||| f.toInt64
theorem own_key_inj {s f s' f' : Int32} (h1 : ¬ f < 0) (h2 : ¬ f' < 0) (h : own_key s f = own_key s' f') : s = s' ∧ f = f' := by
  rw [Int32.lt_iff_toInt_lt] at h1 h2
  have z : (0 : Int32).toInt = 0 := by decide
  rw [z] at h1 h2
  have key : ∀ s f : Int32, 0 ≤ f.toInt → (own_key s f).toInt = s.toInt * 4294967296 + f.toInt := fun s f hf => by
    have a1 := c_lshl s.toInt64 32 32 (by decide)
    have a2 := c_i2l s
    have a3 := c_i2l f
    have a4 := rng32 s
    have a5 := rng32 f
    have a6 := rng64 (s.toInt64 <<< ((32 : Int32) &&& 0x3f).toInt64)
    have p : (2 ^ 32 : Nat) = 4294967296 := by decide
    rw [p, a2] at a1
    have a7 : (s.toInt64 <<< ((32 : Int32) &&& 0x3f).toInt64).toInt = s.toInt * 4294967296 := by omega
    have a8 := c_orL (s.toInt64 <<< ((32 : Int32) &&& 0x3f).toInt64) f.toInt64 32 (by decide) 4294967296 (by decide) (by omega) (by omega) (by omega)
    have a9 := rng64 ((s.toInt64 <<< ((32 : Int32) &&& 0x3f).toInt64) ||| f.toInt64)
    show ((s.toInt64 <<< ((32 : Int32) &&& 0x3f).toInt64) ||| f.toInt64).toInt = _
    omega
  have e := congrArg Int64.toInt h
  rw [key s f (by omega), key s' f' (by omega)] at e
  have b1 := rng32 f
  have b2 := rng32 f'
  exact ⟨Int32.toInt_inj.mp (by omega), Int32.toInt_inj.mp (by omega)⟩
def own_val (o : Option Addr) : Value := match o with | none => .null | some a => .ref a
theorem own_val_ref (o : Option Addr) : (own_val o).isRef = true := by cases o <;> rfl
theorem own_opt (o : Option Addr) : o = none ∨ ∃ x, o = some x := by cases o with | none => exact Or.inl rfl | some x => exact Or.inr ⟨x, rfl⟩
def own_kl (K : Nat → Int64) : List Value := (List.range 16).map (fun i => .long (K i))
def own_vl (V : Nat → Option Addr) : List Value := (List.range 16).map (fun i => own_val (V i))
theorem own_ofn {i : Nat} (hi : i < 16) : (Int32.ofNat i).toNatClampNeg = i ∧ ¬ (Int32.ofNat i < (0 : Int32)) ∧ Int32.ofNat i < (16 : Int32) ∧ ((Int32.ofNat i) + (1 : Int32)) &&& (15 : Int32) = Int32.ofNat ((i + 1) % 16) :=
  (by decide : ∀ i : Fin 16, (Int32.ofNat i.val).toNatClampNeg = i.val ∧ ¬ (Int32.ofNat i.val < (0 : Int32)) ∧ Int32.ofNat i.val < (16 : Int32) ∧ ((Int32.ofNat i.val) + (1 : Int32)) &&& (15 : Int32) = Int32.ofNat ((i.val + 1) % 16)) ⟨i, hi⟩
theorem own_atK (K : Nat → Int64) {i : Nat} (hi : i < 16) : (own_kl K).getD (Int32.ofNat i).toNatClampNeg (.long (0 : Int64)) = .long (K i) := by
  rw [(own_ofn hi).1]; simp [own_kl, List.getD_eq_getElem?_getD, hi]
theorem own_atV (V : Nat → Option Addr) {i : Nat} (hi : i < 16) : (own_vl V).getD (Int32.ofNat i).toNatClampNeg .null = own_val (V i) := by
  rw [(own_ofn hi).1]; simp [own_vl, List.getD_eq_getElem?_getD, hi]
theorem own_setK (K : Nat → Int64) {i : Nat} (k : Int64) : (own_kl K).set i (.long k) = own_kl (own_up1 K i k) := by
  apply List.ext_getElem
  · simp [own_kl]
  · intro j h1 h2
    simp only [own_kl, List.getElem_set, List.getElem_map, List.getElem_range, own_up1]
    by_cases e : i = j
    · rw [if_pos e, if_pos e.symm]
    · rw [if_neg e, if_neg (fun z => e z.symm)]
theorem own_setV (V : Nat → Option Addr) {i : Nat} (a : Addr) : (own_vl V).set i (.ref a) = own_vl (own_up1 V i (some a)) := by
  apply List.ext_getElem
  · simp [own_vl]
  · intro j h1 h2
    simp only [own_vl, List.getElem_set, List.getElem_map, List.getElem_range, own_up1]
    by_cases e : i = j
    · rw [if_pos e, if_pos e.symm]; rfl
    · rw [if_neg e, if_neg (fun z => e z.symm)]
theorem ef_4_R (m : MethodId) (x0 : Addr) : entryFrame m #[(.ref x0)] 1 = mkF m 0 #[.val (.ref x0)] [] := by first | (simp [entryFrame, mkF, argsToLocals, Value.category]; done) | rfl
theorem pn_4 : plainName "java/util/AbstractCollection" = true := by first | (simp [plainName, overriddenIn]; done) | decide +kernel
theorem d4_0 : decode jdk_22_method_1_code 0 = .ok (.aload_n 0, 1) := by decide +kernel
theorem d4_1 : decode jdk_22_method_1_code 1 = .ok (.invokespecial 1, 3) := by decide +kernel
theorem d4_4 : decode jdk_22_method_1_code 4 = .ok (.return_, 1) := by decide +kernel
def Q_rm4 (Z : State) (a1 : Addr) (w_NB : Addr) (w_NW : Addr) (w_EL : Addr) (h0 : Heap) (n0 : Nat) (v : Option Value) (h : Heap) (L : List Loc) : Prop := v = none ∧ Fr n0 L ∧ h = h0
theorem rm4 (l : Launch) (Z : State) (a0 : Array Value) (hw : ∀ d ∈ tables_1, d.before a0 Z = true) (ws : List Jvm.Cond) {w_NB : Addr} {w_NW : Addr} {w_EL : Addr} (cx : Cx Z w_NB w_NW w_EL) (a1 : Addr) (h0 : Heap) (n0 : Nat) (O0 : Old Z n0 h0) :
    OwnMet l (⟨"java/util/AbstractCollection", "<init>", "()V"⟩ : MethodName) (Jvm.Cond.code (⟨"java/util/AbstractCollection", "<init>", "()V"⟩ : MethodName) jdk_22_method_1_code 1 none :: ws) (own_R 1 0 0 12) #[(.ref a1)] Z h0 (Q_rm4 Z a1 w_NB w_NW w_EL h0 n0) := by
  refine own_body (plainFor_of_name pn_4) hisR fun p e s m below meth c s₁ hx hby hml hown hnm hret hZ X0 e0 => ?_
  have N0 := Fr.nil n0
  have pre0 : ∀ t, Go p e below s₁ (mkF m 0 #[.val (.ref a1)] []) t → Go p e below s₁ (entryFrame m #[(.ref a1)] 1) t := fun t k => castTop (ef_4_R m a1) k
  have q21 := fun t (kt : Go p e below s₁ (mkF m 1 #[.val (.ref a1)] [(.ref a1)]) t) => pre0 t (by
    show Go p e below s₁ (mkF m 0 #[.val (.ref a1)] []) _
    refine XS.aloadN X0.here hx rfl (hb hby d4_0) rfl rfl ?_
    exact kt)
  obtain ⟨T22, X22, e22, st22⟩ := initO X0 hx hZ hown (own_w hw 21 rfl) (own_w hw 7 rfl) (own_w hw 8 rfl) e0 (g := (mkF m 1 #[.val (.ref a1)] [(.ref a1)])) rfl (by rw [hml]; rfl) rfl (hb hby d4_1) (by decide) (W := 0) (by show 2 * 0 + _ ≤ _; exact Nat.le_of_eq rfl) (by decide)
  have q23 := fun t (kt : Go p e below T22 (mkF m 4 #[.val (.ref a1)] []) t) => q21 t (st22 t kt)
  exact ⟨none, T22, _, _, _, _, X22, by decide, by decide, fun _ => rfl, q23, fun fs hr => X22.returnOut hx hret (hb hby d4_4) hr, by rw [e22]; exact ⟨rfl, N0, rfl⟩⟩
theorem ef_3_R (m : MethodId) (x0 : Addr) : entryFrame m #[(.ref x0)] 1 = mkF m 0 #[.val (.ref x0)] [] := by first | (simp [entryFrame, mkF, argsToLocals, Value.category]; done) | rfl
theorem pn_3 : plainName "java/util/ArrayDeque" = true := by first | (simp [plainName, overriddenIn]; done) | decide +kernel
theorem d3_0 : decode jdk_21_method_3_code 0 = .ok (.aload_n 0, 1) := by decide +kernel
theorem d3_1 : decode jdk_21_method_3_code 1 = .ok (.invokespecial 42, 3) := by decide +kernel
theorem pd_0 : parseMethodDescriptor "()V" = some ⟨[], none⟩ := by decide +kernel
theorem d3_4 : decode jdk_21_method_3_code 4 = .ok (.aload_n 0, 1) := by decide +kernel
theorem d3_5 : decode jdk_21_method_3_code 5 = .ok (.bipush 17, 2) := by decide +kernel
theorem d3_7 : decode jdk_21_method_3_code 7 = .ok (.anewarray 47, 3) := by decide +kernel
theorem d3_10 : decode jdk_21_method_3_code 10 = .ok (.putfield 3, 3) := by decide +kernel
theorem d3_13 : decode jdk_21_method_3_code 13 = .ok (.return_, 1) := by decide +kernel
def Q_rm3 (Z : State) (a1 : Addr) (w_NB : Addr) (w_NW : Addr) (w_EL : Addr) (h0 : Heap) (n0 : Nat) (v : Option Value) (h : Heap) (L : List Loc) : Prop := v = none ∧ Fr n0 L ∧ Keep h0 h [a1]
theorem rm3 (l : Launch) (Z : State) (a0 : Array Value) (hw : ∀ d ∈ tables_1, d.before a0 Z = true) (ws : List Jvm.Cond) {w_NB : Addr} {w_NW : Addr} {w_EL : Addr} (cx : Cx Z w_NB w_NW w_EL) (a1 : Addr) (h0 : Heap) (n0 : Nat) (O0 : Old Z n0 h0) (E1 : Exa Z h0 a1 "java/util/ArrayDeque") (F1 : Fld Z h0 a1 "java/util/ArrayDeque" "elements" "[Ljava/lang/Object;" .null) (g_a1 : n0 ≤ a1) :
    OwnMet l (⟨"java/util/ArrayDeque", "<init>", "()V"⟩ : MethodName) (Jvm.Cond.code (⟨"java/util/ArrayDeque", "<init>", "()V"⟩ : MethodName) jdk_21_method_3_code 1 none :: ws) (own_R 2 1 17 24) #[(.ref a1)] Z h0 (Q_rm3 Z a1 w_NB w_NW w_EL h0 n0) := by
  refine own_body (plainFor_of_name pn_3) hisR fun p e s m below meth c s₁ hx hby hml hown hnm hret hZ X0 e0 => ?_
  have N0 := Fr.nil n0
  have K0 : Keep h0 h0 [a1] := Keep.refl _ _
  have pre0 : ∀ t, Go p e below s₁ (mkF m 0 #[.val (.ref a1)] []) t → Go p e below s₁ (entryFrame m #[(.ref a1)] 1) t := fun t k => castTop (ef_3_R m a1) k
  have q21 := fun t (kt : Go p e below s₁ (mkF m 1 #[.val (.ref a1)] [(.ref a1)]) t) => pre0 t (by
    show Go p e below s₁ (mkF m 0 #[.val (.ref a1)] []) _
    refine XS.aloadN X0.here hx rfl (hb hby d3_0) rfl rfl ?_
    exact kt)
  obtain ⟨_, _, ⟨T22, L22, k22, n22⟩, -, X22, ⟨Lc22, hQ22, l22, y22, z22⟩, st22⟩ := X0.specialBack hx (y := (⟨"java/util/AbstractCollection", "<init>", "()V"⟩ : MethodName)) rfl hown (mvT hZ (own_w hw 15 rfl)) (mvT hZ (own_w hw 16 rfl)) (mvT hZ (own_w hw 20 rfl)) (by decide) (backOf (W := 0) (rm4 l Z a0 hw [] cx a1 h0 n0 O0 ) hZ (own_w hw 20 rfl) (own_w hw 19 rfl) (by decide) (by decide)) (g := (mkF m 1 #[.val (.ref a1)] [(.ref a1)])) rfl (by rw [hml]; rfl) (Steps.refl _) (a := a1) (argsL := []) (rest := []) (lenOf pd_0 rfl) rfl (by show 2 * 0 + _ ≤ _; exact Nat.le_of_eq rfl) (hb hby d3_1) (fun _ _ => ⟨rfl, e0, (by decide : 0 + 0 ≤ _), (by decide : 0 + 0 ≤ _)⟩)
  dsimp only [Pt.U, Pt.locs, Pt.cells, Pt.slots] at X22 l22 y22 z22 st22 hQ22
  subst l22 y22 z22
  obtain ⟨rfl, Nq22, eq22⟩ := hQ22
  have N23 := Fr.app N0 Nq22
  have q24 := fun t (kt : Go p e below T22 (mkF m 4 #[.val (.ref a1)] []) t) => q21 t (st22.trans kt)
  have q25 := fun t (kt : Go p e below T22 (mkF m 7 #[.val (.ref a1)] [(.int (17 : Int32)), (.ref a1)]) t) => q24 t (by
    show Go p e below T22 (mkF m 4 #[.val (.ref a1)] []) _
    refine XS.aloadN X22.here hx rfl (hb hby d3_4) rfl rfl ?_
    show Go p e below T22 (mkF m 5 #[.val (.ref a1)] [(.ref a1)]) _
    refine XS.bipush X22.here hx rfl (hb hby d3_5) ?_
    exact kt)
  obtain ⟨T26, h26, k26, X26, e26, E26, A26, O_26, st26⟩ := newR X22 hx hZ hown (own_w hw 22 rfl) (own_w hw 23 rfl) eq22 (g := (mkF m 7 #[.val (.ref a1)] [(.int (17 : Int32)), (.ref a1)])) rfl (hb hby d3_7) rfl (by decide) (cap := 17) (by decide) (by decide) (by decide) (by decide)
  obtain ⟨b26, g26⟩ : ∃ z, z = h0.size := ⟨_, rfl⟩
  rw [← g26] at A26 st26
  have gg27 : n0 ≤ b26 := Nat.le_trans (O0.1 ▸ O0.2.1) (Nat.le_of_eq g26.symm)
  have sz28 : h0.size ≤ b26 := Nat.le_trans K0.1 (Nat.le_of_eq g26.symm)
  have q29 := fun t (kt : Go p e below T26 (mkF m 10 #[.val (.ref a1)] [(.ref b26), (.ref a1)]) t) => q25 t (st26 t kt)
  have O30 : Old Z n0 h26 := O0.ext E26
  have K31 : Keep h0 h26 [a1] := K0.ext E26
  have V26 : Arv Z h26 b26 k26 (.object "java/lang/Object") (17 : Int32) [.null, .null, .null, .null, .null, .null, .null, .null, .null, .null, .null, .null, .null, .null, .null, .null, .null] .null := (Arv.new A26 (by decide)).pad (pad_rep [] .null 17)
  have f32 : Exa Z h26 a1 "java/util/ArrayDeque" := (E1.ext E26)
  have f33 : Fld Z h26 a1 "java/util/ArrayDeque" "elements" "[Ljava/lang/Object;" .null := (F1.ext E26)
  obtain ⟨T34, h34, X34, e34, W34, st34⟩ := putF X26 hx hZ hown (host := "") (Or.inl (own_w hw 24 rfl)) Via.refl e26 f33 f32 (Or.inl (own_w hw 25 rfl)) (own_w hw 10 rfl) (ty := (.array (.object "java/lang/Object"))) (by decide) rfl rfl (g := (mkF m 10 #[.val (.ref a1)] [(.ref b26), (.ref a1)])) rfl rfl (hb hby d3_10)
  have q35 := fun t (kt : Go p e below T34 (mkF m 13 #[.val (.ref a1)] []) t) => q29 t (st34 t kt)
  have f36 : Fld Z h34 a1 "java/util/ArrayDeque" "elements" "[Ljava/lang/Object;" (.ref b26) := f33.same W34
  have N37 := Fr.snoc X34 N23 g_a1
  have O38 : Old Z n0 h34 := O30.wr W34 g_a1
  have K39 : Keep h0 h34 [a1] := K31.wr W34 (Or.inl (List.mem_of_getElem? (i := 0) rfl))
  exact ⟨none, T34, _, _, _, _, X34, by decide, by decide, fun _ => rfl, q35, fun fs hr => X34.returnOut hx hret (hb hby d3_13) hr, by rw [e34]; exact ⟨rfl, N37, K39⟩⟩
theorem ef_9_JI (m : MethodId) (x0 : Int64) (x1 : Int32) : entryFrame m #[(.long x0), (.int x1)] 5 = mkF m 0 #[.val (.long x0), .second, .val (.int x1), .unset, .unset] [] := by first | (simp [entryFrame, mkF, argsToLocals, Value.category]; done) | rfl
theorem pn_9 : plainName "com/example/pointward/pointward/pointsto/LongTable" = true := by first | (simp [plainName, overriddenIn]; done) | decide +kernel
theorem d9_0 : decode prog_17_method_5_code 0 = .ok (.lload_n 0, 1) := by decide +kernel
theorem d9_1 : decode prog_17_method_5_code 1 = .ok (.ldc2_w 34, 3) := by decide +kernel
theorem d9_4 : decode prog_17_method_5_code 4 = .ok (.lmul, 1) := by decide +kernel
theorem d9_5 : decode prog_17_method_5_code 5 = .ok (.lstore_n 3, 1) := by decide +kernel
theorem d9_6 : decode prog_17_method_5_code 6 = .ok (.lload_n 3, 1) := by decide +kernel
theorem d9_7 : decode prog_17_method_5_code 7 = .ok (.lload_n 3, 1) := by decide +kernel
theorem d9_8 : decode prog_17_method_5_code 8 = .ok (.bipush 32, 2) := by decide +kernel
theorem d9_10 : decode prog_17_method_5_code 10 = .ok (.lushr, 1) := by decide +kernel
theorem d9_11 : decode prog_17_method_5_code 11 = .ok (.lxor, 1) := by decide +kernel
theorem d9_12 : decode prog_17_method_5_code 12 = .ok (.l2i, 1) := by decide +kernel
theorem d9_13 : decode prog_17_method_5_code 13 = .ok (.iload_n 2, 1) := by decide +kernel
theorem d9_14 : decode prog_17_method_5_code 14 = .ok (.iand, 1) := by decide +kernel
theorem d9_15 : decode prog_17_method_5_code 15 = .ok (.ireturn, 1) := by decide +kernel
def Q_rm9 (Z : State) (q1 : Int64) (p2 : Int32) (w_NB : Addr) (w_NW : Addr) (w_EL : Addr) (h0 : Heap) (n0 : Nat) (v : Option Value) (h : Heap) (L : List Loc) : Prop := v = some (.int ((((q1 * (-7046029254386353131 : Int64)) ^^^ (((q1 * (-7046029254386353131 : Int64)).toUInt64 >>> ((32 : Int32) &&& 0x3f).toInt64.toUInt64).toInt64)).toInt32) &&& p2)) ∧ Fr n0 L ∧ h = h0
theorem rm9 (l : Launch) (Z : State) (a0 : Array Value) (hw : ∀ d ∈ tables_1, d.before a0 Z = true) (ws : List Jvm.Cond) {w_NB : Addr} {w_NW : Addr} {w_EL : Addr} (cx : Cx Z w_NB w_NW w_EL) (q1 : Int64) (p2 : Int32) (h0 : Heap) (n0 : Nat) (O0 : Old Z n0 h0) :
    OwnMet l (⟨"com/example/pointward/pointward/pointsto/LongTable", "slot", "(JI)I"⟩ : MethodName) (Jvm.Cond.code (⟨"com/example/pointward/pointward/pointsto/LongTable", "slot", "(JI)I"⟩ : MethodName) prog_17_method_5_code 5 (some .int) :: ws) (own_R 0 0 0 0) #[(.long q1), (.int p2)] Z h0 (Q_rm9 Z q1 p2 w_NB w_NW w_EL h0 n0) := by
  refine own_body (plainFor_of_name pn_9) hisR fun p e s m below meth c s₁ hx hby hml hown hnm hret hZ X0 e0 => ?_
  have N0 := Fr.nil n0
  have pre0 : ∀ t, Go p e below s₁ (mkF m 0 #[.val (.long q1), .second, .val (.int p2), .unset, .unset] []) t → Go p e below s₁ (entryFrame m #[(.long q1), (.int p2)] 5) t := fun t k => castTop (ef_9_JI m q1 p2) k
  have q21 := fun t (kt : Go p e below s₁ (mkF m 15 #[.val (.long q1), .second, .val (.int p2), .val (.long (q1 * (-7046029254386353131 : Int64))), .second] [(.int ((((q1 * (-7046029254386353131 : Int64)) ^^^ (((q1 * (-7046029254386353131 : Int64)).toUInt64 >>> ((32 : Int32) &&& 0x3f).toInt64.toUInt64).toInt64)).toInt32) &&& p2))]) t) => pre0 t (by
    show Go p e below s₁ (mkF m 0 #[.val (.long q1), .second, .val (.int p2), .unset, .unset] []) _
    refine XS.lloadN X0.here hx rfl (hb hby d9_0) rfl ?_
    show Go p e below s₁ (mkF m 1 #[.val (.long q1), .second, .val (.int p2), .unset, .unset] [(.long q1)]) _
    refine X0.ldc2Long hx hown (mvT hZ (own_w hw 63 rfl)) (g := (mkF m 1 #[.val (.long q1), .second, .val (.int p2), .unset, .unset] [(.long q1)])) rfl (hb hby d9_1) _ ?_
    show Go p e below s₁ (mkF m 4 #[.val (.long q1), .second, .val (.int p2), .unset, .unset] [(.long (-7046029254386353131 : Int64)), (.long q1)]) _
    refine XS.lmul X0.here hx rfl (hb hby d9_4) rfl ?_
    show Go p e below s₁ (mkF m 5 #[.val (.long q1), .second, .val (.int p2), .unset, .unset] [(.long (q1 * (-7046029254386353131 : Int64)))]) _
    refine XS.lstoreN X0.here hx rfl (hb hby d9_5) rfl (l' := #[.val (.long q1), .second, .val (.int p2), .val (.long (q1 * (-7046029254386353131 : Int64))), .second]) rfl ?_
    show Go p e below s₁ (mkF m 6 #[.val (.long q1), .second, .val (.int p2), .val (.long (q1 * (-7046029254386353131 : Int64))), .second] []) _
    refine XS.lloadN X0.here hx rfl (hb hby d9_6) rfl ?_
    show Go p e below s₁ (mkF m 7 #[.val (.long q1), .second, .val (.int p2), .val (.long (q1 * (-7046029254386353131 : Int64))), .second] [(.long (q1 * (-7046029254386353131 : Int64)))]) _
    refine XS.lloadN X0.here hx rfl (hb hby d9_7) rfl ?_
    show Go p e below s₁ (mkF m 8 #[.val (.long q1), .second, .val (.int p2), .val (.long (q1 * (-7046029254386353131 : Int64))), .second] [(.long (q1 * (-7046029254386353131 : Int64))), (.long (q1 * (-7046029254386353131 : Int64)))]) _
    refine XS.bipush X0.here hx rfl (hb hby d9_8) ?_
    show Go p e below s₁ (mkF m 10 #[.val (.long q1), .second, .val (.int p2), .val (.long (q1 * (-7046029254386353131 : Int64))), .second] [(.int (32 : Int32)), (.long (q1 * (-7046029254386353131 : Int64))), (.long (q1 * (-7046029254386353131 : Int64)))]) _
    refine XS.lushr X0.here hx rfl (hb hby d9_10) rfl ?_
    show Go p e below s₁ (mkF m 11 #[.val (.long q1), .second, .val (.int p2), .val (.long (q1 * (-7046029254386353131 : Int64))), .second] [(.long (((q1 * (-7046029254386353131 : Int64)).toUInt64 >>> ((32 : Int32) &&& 0x3f).toInt64.toUInt64).toInt64)), (.long (q1 * (-7046029254386353131 : Int64)))]) _
    refine XS.lxor X0.here hx rfl (hb hby d9_11) rfl ?_
    show Go p e below s₁ (mkF m 12 #[.val (.long q1), .second, .val (.int p2), .val (.long (q1 * (-7046029254386353131 : Int64))), .second] [(.long ((q1 * (-7046029254386353131 : Int64)) ^^^ (((q1 * (-7046029254386353131 : Int64)).toUInt64 >>> ((32 : Int32) &&& 0x3f).toInt64.toUInt64).toInt64)))]) _
    refine XS.l2i X0.here hx rfl (hb hby d9_12) rfl ?_
    show Go p e below s₁ (mkF m 13 #[.val (.long q1), .second, .val (.int p2), .val (.long (q1 * (-7046029254386353131 : Int64))), .second] [(.int (((q1 * (-7046029254386353131 : Int64)) ^^^ (((q1 * (-7046029254386353131 : Int64)).toUInt64 >>> ((32 : Int32) &&& 0x3f).toInt64.toUInt64).toInt64)).toInt32))]) _
    refine XS.iloadN X0.here hx rfl (hb hby d9_13) rfl ?_
    show Go p e below s₁ (mkF m 14 #[.val (.long q1), .second, .val (.int p2), .val (.long (q1 * (-7046029254386353131 : Int64))), .second] [(.int p2), (.int (((q1 * (-7046029254386353131 : Int64)) ^^^ (((q1 * (-7046029254386353131 : Int64)).toUInt64 >>> ((32 : Int32) &&& 0x3f).toInt64.toUInt64).toInt64)).toInt32))]) _
    refine XS.iand X0.here hx rfl (hb hby d9_14) rfl ?_
    exact kt)
  exact ⟨some (.int ((((q1 * (-7046029254386353131 : Int64)) ^^^ (((q1 * (-7046029254386353131 : Int64)).toUInt64 >>> ((32 : Int32) &&& 0x3f).toInt64.toUInt64).toInt64)).toInt32) &&& p2)), s₁, _, _, _, _, X0, by decide, by decide, nofun, q21, fun fs hr => retI X0 hx hret (hb hby d9_15) hr, by rw [e0]; exact ⟨rfl, N0, rfl⟩⟩
def own_sl (q1 : Int64) : Nat := ((((q1 * (-7046029254386353131 : Int64)) ^^^ (((q1 * (-7046029254386353131 : Int64)).toUInt64 >>> ((32 : Int32) &&& 0x3f).toInt64.toUInt64).toInt64)).toInt32) &&& (15 : Int32)).toNatClampNeg
theorem own_sl_lt (q1 : Int64) : own_sl q1 < 16 ∧ ((((q1 * (-7046029254386353131 : Int64)) ^^^ (((q1 * (-7046029254386353131 : Int64)).toUInt64 >>> ((32 : Int32) &&& 0x3f).toInt64.toUInt64).toInt64)).toInt32) &&& (15 : Int32)) = Int32.ofNat (own_sl q1) := by
  unfold own_sl
  generalize (((q1 * (-7046029254386353131 : Int64)) ^^^ (((q1 * (-7046029254386353131 : Int64)).toUInt64 >>> ((32 : Int32) &&& 0x3f).toInt64.toUInt64).toInt64)).toInt32) = z
  have h1 := c_mask z 15 4 (by decide) (by decide)
  have p : (2 ^ 4 : Nat) = 16 := by decide
  rw [p] at h1
  have h2 : ¬ (z &&& 15) < 0 := by rw [Int32.lt_iff_toInt_lt, Int32.toInt_zero]; omega
  have h3 := nat_of h2
  refine ⟨by omega, Int32.toInt_inj.mp ?_⟩
  have h4 : (z &&& 15).toNatClampNeg < 16 := by omega
  have h5 := (own_ofn h4).1
  have h6 := nat_of (own_ofn h4).2.1
  rw [h5] at h6
  rw [h6, h3]
/-- t is a LongTable of n entries: the map M; its arrays lie at ka and va -/
def Tb (Z : State) (h : Heap) (t ka va : Addr) (M : Int64 → Option Addr) (n : Nat) : Prop := ∃ (K : Nat → Int64) (V : Nat → Option Addr) (l : List Nat) (kk kv : ClassId),
  Exa Z h t "com/example/pointward/pointward/pointsto/LongTable" ∧ Fld Z h t "com/example/pointward/pointward/pointsto/LongTable" "keys" "[J" (.ref ka) ∧ Fld Z h t "com/example/pointward/pointward/pointsto/LongTable" "values" "[Ljava/lang/Object;" (.ref va) ∧ Fld Z h t "com/example/pointward/pointward/pointsto/LongTable" "size" "I" (.int (Int32.ofNat n)) ∧
  Arv Z h ka kk .long (16 : Int32) (own_kl K) (.long (0 : Int64)) ∧ Arv Z h va kv (.object "java/lang/Object") (16 : Int32) (own_vl V) .null ∧ Ovr Z kv "java/lang/Object" ∧ own_Inv own_sl K V M l ∧ l.length = n ∧
  (∀ k a, M k = some a → Exa Z h a "com/example/pointward/pointward/pointsto/ConstraintGraph$Node") ∧ t ≠ ka ∧ t ≠ va ∧ ka ≠ va
theorem Tb.ext {Z : State} {h h' : Heap} {t ka va : Addr} {M : Int64 → Option Addr} {n : Nat} (F : Tb Z h t ka va M n) (E : Ext h h') : Tb Z h' t ka va M n := by
  obtain ⟨K, V, l, kk, kv, a1, a2, a3, a4, a5, a6, a7, a8, a9, a10, r⟩ := F
  exact ⟨K, V, l, kk, kv, a1.ext E, a2.ext E, a3.ext E, a4.ext E, a5.ext E, a6.ext E, a7, a8, a9, fun k a q => (a10 k a q).ext E, r⟩
theorem Tb.keep {Z : State} {h h' : Heap} {t ka va : Addr} {M : Int64 → Option Addr} {n : Nat} {ws : List Addr} (F : Tb Z h t ka va M n) (K : Keep h h' ws) (q1 : t ∉ ws) (q2 : ka ∉ ws) (q3 : va ∉ ws) : Tb Z h' t ka va M n := by
  obtain ⟨K', V, l, kk, kv, a1, a2, a3, a4, a5, a6, a7, a8, a9, a10, r⟩ := F
  exact ⟨K', V, l, kk, kv, a1.keep K, a2.keep K q1, a3.keep K q1, a4.keep K q1, a5.keep K q2, a6.keep K q3, a7, a8, a9, fun k a q => (a10 k a q).keep K, r⟩
theorem Tb.lt {Z : State} {h : Heap} {t ka va : Addr} {M : Int64 → Option Addr} {n : Nat} (F : Tb Z h t ka va M n) : t < h.size := by obtain ⟨_, _, _, _, _, a1, _⟩ := F; exact a1.lt
theorem Tb.lt1 {Z : State} {h : Heap} {t ka va : Addr} {M : Int64 → Option Addr} {n : Nat} (F : Tb Z h t ka va M n) : ka < h.size := by obtain ⟨_, _, _, _, _, _, _, _, _, a5, _⟩ := F; exact a5.lt
theorem Tb.lt2 {Z : State} {h : Heap} {t ka va : Addr} {M : Int64 → Option Addr} {n : Nat} (F : Tb Z h t ka va M n) : va < h.size := by obtain ⟨_, _, _, _, _, _, _, _, _, _, a6, _⟩ := F; exact a6.lt
theorem Tb.exa {Z : State} {h : Heap} {t ka va : Addr} {M : Int64 → Option Addr} {n : Nat} (F : Tb Z h t ka va M n) : Exa Z h t "com/example/pointward/pointward/pointsto/LongTable" := by obtain ⟨_, _, _, _, _, a1, _⟩ := F; exact a1
theorem Tb.node {Z : State} {h : Heap} {t ka va : Addr} {M : Int64 → Option Addr} {n : Nat} (F : Tb Z h t ka va M n) {k : Int64} {a : Addr} (q : M k = some a) : Exa Z h a "com/example/pointward/pointward/pointsto/ConstraintGraph$Node" := by obtain ⟨_, _, _, _, _, _, _, _, _, _, _, _, _, _, a10, _⟩ := F; exact a10 k a q
theorem ef_5_R (m : MethodId) (x0 : Addr) : entryFrame m #[(.ref x0)] 1 = mkF m 0 #[.val (.ref x0)] [] := by first | (simp [entryFrame, mkF, argsToLocals, Value.category]; done) | rfl
theorem pn_5 : plainName "com/example/pointward/pointward/pointsto/LongTable" = true := by first | (simp [plainName, overriddenIn]; done) | decide +kernel
theorem d5_0 : decode prog_17_method_1_code 0 = .ok (.aload_n 0, 1) := by decide +kernel
theorem d5_1 : decode prog_17_method_1_code 1 = .ok (.invokespecial 1, 3) := by decide +kernel
theorem d5_4 : decode prog_17_method_1_code 4 = .ok (.aload_n 0, 1) := by decide +kernel
theorem d5_5 : decode prog_17_method_1_code 5 = .ok (.bipush 16, 2) := by decide +kernel
theorem d5_7 : decode prog_17_method_1_code 7 = .ok (.newarray .long, 2) := by decide +kernel
theorem d5_9 : decode prog_17_method_1_code 9 = .ok (.putfield 7, 3) := by decide +kernel
theorem d5_12 : decode prog_17_method_1_code 12 = .ok (.aload_n 0, 1) := by decide +kernel
theorem d5_13 : decode prog_17_method_1_code 13 = .ok (.bipush 16, 2) := by decide +kernel
theorem d5_15 : decode prog_17_method_1_code 15 = .ok (.anewarray 2, 3) := by decide +kernel
theorem d5_18 : decode prog_17_method_1_code 18 = .ok (.putfield 13, 3) := by decide +kernel
theorem d5_21 : decode prog_17_method_1_code 21 = .ok (.return_, 1) := by decide +kernel
def Q_rm5 (Z : State) (a1 : Addr) (w_NB : Addr) (w_NW : Addr) (w_EL : Addr) (h0 : Heap) (n0 : Nat) (v : Option Value) (h : Heap) (L : List Loc) : Prop := ∃ (ka : Addr) (va : Addr), v = none ∧ Fr n0 L ∧ Keep h0 h [a1] ∧ h0.size ≤ ka ∧ h0.size ≤ va ∧ Tb Z h a1 ka va (fun _ => none) 0
theorem rm5 (l : Launch) (Z : State) (a0 : Array Value) (hw : ∀ d ∈ tables_1, d.before a0 Z = true) (ws : List Jvm.Cond) {w_NB : Addr} {w_NW : Addr} {w_EL : Addr} (cx : Cx Z w_NB w_NW w_EL) (a1 : Addr) (h0 : Heap) (n0 : Nat) (O0 : Old Z n0 h0) (E1 : Exa Z h0 a1 "com/example/pointward/pointward/pointsto/LongTable") (F1 : Fld Z h0 a1 "com/example/pointward/pointward/pointsto/LongTable" "keys" "[J" .null) (F2 : Fld Z h0 a1 "com/example/pointward/pointward/pointsto/LongTable" "values" "[Ljava/lang/Object;" .null) (F3 : Fld Z h0 a1 "com/example/pointward/pointward/pointsto/LongTable" "size" "I" (.int (0 : Int32))) (g_a1 : n0 ≤ a1) :
    OwnMet l (⟨"com/example/pointward/pointward/pointsto/LongTable", "<init>", "()V"⟩ : MethodName) (Jvm.Cond.code (⟨"com/example/pointward/pointward/pointsto/LongTable", "<init>", "()V"⟩ : MethodName) prog_17_method_1_code 1 none :: ws) (own_R 1 2 32 12) #[(.ref a1)] Z h0 (Q_rm5 Z a1 w_NB w_NW w_EL h0 n0) := by
  refine own_body (plainFor_of_name pn_5) hisR fun p e s m below meth c s₁ hx hby hml hown hnm hret hZ X0 e0 => ?_
  have N0 := Fr.nil n0
  have K0 : Keep h0 h0 [a1] := Keep.refl _ _
  have pre0 : ∀ t, Go p e below s₁ (mkF m 0 #[.val (.ref a1)] []) t → Go p e below s₁ (entryFrame m #[(.ref a1)] 1) t := fun t k => castTop (ef_5_R m a1) k
  have q21 := fun t (kt : Go p e below s₁ (mkF m 1 #[.val (.ref a1)] [(.ref a1)]) t) => pre0 t (by
    show Go p e below s₁ (mkF m 0 #[.val (.ref a1)] []) _
    refine XS.aloadN X0.here hx rfl (hb hby d5_0) rfl rfl ?_
    exact kt)
  obtain ⟨T22, X22, e22, st22⟩ := initO X0 hx hZ hown (own_w hw 34 rfl) (own_w hw 7 rfl) (own_w hw 8 rfl) e0 (g := (mkF m 1 #[.val (.ref a1)] [(.ref a1)])) rfl (by rw [hml]; rfl) rfl (hb hby d5_1) (by decide) (W := 0) (by show 2 * 0 + _ ≤ _; exact Nat.le_of_eq rfl) (by decide)
  have q23 := fun t (kt : Go p e below T22 (mkF m 4 #[.val (.ref a1)] []) t) => q21 t (st22 t kt)
  have q24 := fun t (kt : Go p e below T22 (mkF m 7 #[.val (.ref a1)] [(.int (16 : Int32)), (.ref a1)]) t) => q23 t (by
    show Go p e below T22 (mkF m 4 #[.val (.ref a1)] []) _
    refine XS.aloadN X22.here hx rfl (hb hby d5_4) rfl rfl ?_
    show Go p e below T22 (mkF m 5 #[.val (.ref a1)] [(.ref a1)]) _
    refine XS.bipush X22.here hx rfl (hb hby d5_5) ?_
    exact kt)
  obtain ⟨T25, h25, k25, X25, e25, E25, A25, st25⟩ := newP X22 hx hZ (own_w hw 35 rfl) e22 (g := (mkF m 7 #[.val (.ref a1)] [(.int (16 : Int32)), (.ref a1)])) rfl (hb hby d5_7) rfl (by decide) (cap := 16) (by decide) (by decide) (by decide) (by decide)
  obtain ⟨b25, g25⟩ : ∃ z, z = h0.size := ⟨_, rfl⟩
  rw [← g25] at A25 st25
  have gg26 : n0 ≤ b25 := Nat.le_trans (O0.1 ▸ O0.2.1) (Nat.le_of_eq g25.symm)
  have sz27 : h0.size ≤ b25 := Nat.le_trans K0.1 (Nat.le_of_eq g25.symm)
  have q28 := fun t (kt : Go p e below T25 (mkF m 9 #[.val (.ref a1)] [(.ref b25), (.ref a1)]) t) => q24 t (st25 t kt)
  have O29 : Old Z n0 h25 := O0.ext E25
  have K30 : Keep h0 h25 [a1] := K0.ext E25
  have V25 : Arv Z h25 b25 k25 .long (16 : Int32) [(.long (0 : Int64)), (.long (0 : Int64)), (.long (0 : Int64)), (.long (0 : Int64)), (.long (0 : Int64)), (.long (0 : Int64)), (.long (0 : Int64)), (.long (0 : Int64)), (.long (0 : Int64)), (.long (0 : Int64)), (.long (0 : Int64)), (.long (0 : Int64)), (.long (0 : Int64)), (.long (0 : Int64)), (.long (0 : Int64)), (.long (0 : Int64))] (.long (0 : Int64)) := (Arv.new A25 (by decide)).pad (pad_rep [] (.long (0 : Int64)) 16)
  have f31 : Exa Z h25 a1 "com/example/pointward/pointward/pointsto/LongTable" := (E1.ext E25)
  have f32 : Fld Z h25 a1 "com/example/pointward/pointward/pointsto/LongTable" "keys" "[J" .null := (F1.ext E25)
  obtain ⟨T33, h33, X33, e33, W33, st33⟩ := putF X25 hx hZ hown (host := "") (Or.inl (own_w hw 36 rfl)) Via.refl e25 f32 f31 (Or.inl (own_w hw 37 rfl)) (own_w hw 29 rfl) (ty := (.array .long)) (by decide) rfl rfl (g := (mkF m 9 #[.val (.ref a1)] [(.ref b25), (.ref a1)])) rfl rfl (hb hby d5_9)
  have q34 := fun t (kt : Go p e below T33 (mkF m 12 #[.val (.ref a1)] []) t) => q28 t (st33 t kt)
  have f35 : Fld Z h33 a1 "com/example/pointward/pointward/pointsto/LongTable" "keys" "[J" (.ref b25) := f32.same W33
  have N36 := Fr.snoc X33 N0 g_a1
  have O37 : Old Z n0 h33 := O29.wr W33 g_a1
  have K38 : Keep h0 h33 [a1] := K30.wr W33 (Or.inl (List.mem_of_getElem? (i := 0) rfl))
  have q39 := fun t (kt : Go p e below T33 (mkF m 15 #[.val (.ref a1)] [(.int (16 : Int32)), (.ref a1)]) t) => q34 t (by
    show Go p e below T33 (mkF m 12 #[.val (.ref a1)] []) _
    refine XS.aloadN X33.here hx rfl (hb hby d5_12) rfl rfl ?_
    show Go p e below T33 (mkF m 13 #[.val (.ref a1)] [(.ref a1)]) _
    refine XS.bipush X33.here hx rfl (hb hby d5_13) ?_
    exact kt)
  obtain ⟨T40, h40, k40, X40, e40, E40, A40, O_40, st40⟩ := newR X33 hx hZ hown (own_w hw 38 rfl) (own_w hw 23 rfl) e33 (g := (mkF m 15 #[.val (.ref a1)] [(.int (16 : Int32)), (.ref a1)])) rfl (hb hby d5_15) rfl (by decide) (cap := 16) (by decide) (by decide) (by decide) (by decide)
  obtain ⟨b40, g40⟩ : ∃ z, z = h33.size := ⟨_, rfl⟩
  rw [← g40] at A40 st40
  have gg41 : n0 ≤ b40 := Nat.le_trans (O37.1 ▸ O37.2.1) (Nat.le_of_eq g40.symm)
  have sz42 : h0.size ≤ b40 := Nat.le_trans K38.1 (Nat.le_of_eq g40.symm)
  have q43 := fun t (kt : Go p e below T40 (mkF m 18 #[.val (.ref a1)] [(.ref b40), (.ref a1)]) t) => q39 t (st40 t kt)
  have O44 : Old Z n0 h40 := O37.ext E40
  have K45 : Keep h0 h40 [a1] := K38.ext E40
  have V40 : Arv Z h40 b40 k40 (.object "java/lang/Object") (16 : Int32) [.null, .null, .null, .null, .null, .null, .null, .null, .null, .null, .null, .null, .null, .null, .null, .null] .null := (Arv.new A40 (by decide)).pad (pad_rep [] .null 16)
  have f46 : Exa Z h40 a1 "com/example/pointward/pointward/pointsto/LongTable" := ((f31.wr W33).ext E40)
  have f47 : Fld Z h40 a1 "com/example/pointward/pointward/pointsto/LongTable" "values" "[Ljava/lang/Object;" .null := (((F2.ext E25).other W33 (Or.inr (slot_ne (Or.inl (own_w hw 40 rfl)) (Or.inl (own_w hw 37 rfl)) (by decide) (t := (.array (.object "java/lang/Object"))) (t' := (.array .long)) (by decide) (by decide)))).ext E40)
  obtain ⟨T48, h48, X48, e48, W48, st48⟩ := putF X40 hx hZ hown (host := "") (Or.inl (own_w hw 39 rfl)) Via.refl e40 f47 f46 (Or.inl (own_w hw 40 rfl)) (own_w hw 29 rfl) (ty := (.array (.object "java/lang/Object"))) (by decide) rfl rfl (g := (mkF m 18 #[.val (.ref a1)] [(.ref b40), (.ref a1)])) rfl rfl (hb hby d5_18)
  have q49 := fun t (kt : Go p e below T48 (mkF m 21 #[.val (.ref a1)] []) t) => q43 t (st48 t kt)
  have f50 : Fld Z h48 a1 "com/example/pointward/pointward/pointsto/LongTable" "values" "[Ljava/lang/Object;" (.ref b40) := f47.same W48
  have N51 := Fr.snoc X48 N36 g_a1
  have O52 : Old Z n0 h48 := O44.wr W48 g_a1
  have K53 : Keep h0 h48 [a1] := K45.wr W48 (Or.inl (List.mem_of_getElem? (i := 0) rfl))
  have f54 : Exa Z h48 a1 "com/example/pointward/pointward/pointsto/LongTable" := (f46.wr W48)
  have f55 : Fld Z h48 a1 "com/example/pointward/pointward/pointsto/LongTable" "keys" "[J" (.ref b25) := ((f35.ext E40).other W48 (Or.inr (slot_ne (Or.inl (own_w hw 37 rfl)) (Or.inl (own_w hw 40 rfl)) (by decide) (t := (.array .long)) (t' := (.array (.object "java/lang/Object"))) (by decide) (by decide))))
  have f56 : Fld Z h48 a1 "com/example/pointward/pointward/pointsto/LongTable" "size" "I" (.int (0 : Int32)) := ((((F3.ext E25).other W33 (Or.inr (slot_ne (Or.inl (own_w hw 137 rfl)) (Or.inl (own_w hw 37 rfl)) (by decide) (t := .int) (t' := (.array .long)) (by decide) (by decide)))).ext E40).other W48 (Or.inr (slot_ne (Or.inl (own_w hw 137 rfl)) (Or.inl (own_w hw 40 rfl)) (by decide) (t := .int) (t' := (.array (.object "java/lang/Object"))) (by decide) (by decide))))
  have f57 : Arv Z h48 b25 k25 .long (16 : Int32) [(.long (0 : Int64)), (.long (0 : Int64)), (.long (0 : Int64)), (.long (0 : Int64)), (.long (0 : Int64)), (.long (0 : Int64)), (.long (0 : Int64)), (.long (0 : Int64)), (.long (0 : Int64)), (.long (0 : Int64)), (.long (0 : Int64)), (.long (0 : Int64)), (.long (0 : Int64)), (.long (0 : Int64)), (.long (0 : Int64)), (.long (0 : Int64))] (.long (0 : Int64)) := (((V25.other W33 (Ne.symm (Nat.ne_of_lt (Nat.lt_of_lt_of_le E1.lt (Nat.le_of_eq g25.symm))))).ext E40).other W48 (Ne.symm (Nat.ne_of_lt (Nat.lt_of_lt_of_le E1.lt (Nat.le_of_eq g25.symm)))))
  have f58 : Arv Z h48 b40 k40 (.object "java/lang/Object") (16 : Int32) [.null, .null, .null, .null, .null, .null, .null, .null, .null, .null, .null, .null, .null, .null, .null, .null] .null := (V40.other W48 (Ne.symm (Nat.ne_of_lt (Nat.lt_of_lt_of_le (f31.wr W33).lt (Nat.le_of_eq g40.symm)))))
  exact ⟨none, T48, _, _, _, _, X48, by decide, by decide, fun _ => rfl, q49, fun fs hr => X48.returnOut hx hret (hb hby d5_21) hr, by rw [e48]; exact ⟨b25, b40, rfl, N51, K53, sz27, sz42, ⟨fun _ => 0, fun _ => none, [], k25, k40, f54, f55, f50, f56, f57, f58, O_40, own_inv0 _ _, rfl, (fun _ _ q => by cases q), (Nat.ne_of_lt (Nat.lt_of_lt_of_le E1.lt (Nat.le_of_eq g25.symm))), (Nat.ne_of_lt (Nat.lt_of_lt_of_le (f31.wr W33).lt (Nat.le_of_eq g40.symm))), (Nat.ne_of_lt (Nat.lt_of_lt_of_le (V25.other W33 (Ne.symm (Nat.ne_of_lt (Nat.lt_of_lt_of_le E1.lt (Nat.le_of_eq g25.symm))))).lt (Nat.le_of_eq g40.symm)))⟩⟩⟩
theorem ef_1_R (m : MethodId) (x0 : Addr) : entryFrame m #[(.ref x0)] 1 = mkF m 0 #[.val (.ref x0)] [] := by first | (simp [entryFrame, mkF, argsToLocals, Value.category]; done) | rfl
theorem pn_1 : plainName "com/example/pointward/pointward/pointsto/ConstraintGraph" = true := by first | (simp [plainName, overriddenIn]; done) | decide +kernel
theorem d1_0 : decode prog_13_method_1_code 0 = .ok (.aload_n 0, 1) := by decide +kernel
theorem d1_1 : decode prog_13_method_1_code 1 = .ok (.invokespecial 1, 3) := by decide +kernel
theorem d1_4 : decode prog_13_method_1_code 4 = .ok (.aload_n 0, 1) := by decide +kernel
theorem d1_5 : decode prog_13_method_1_code 5 = .ok (.new 7, 3) := by decide +kernel
theorem d1_8 : decode prog_13_method_1_code 8 = .ok (.dup, 1) := by decide +kernel
theorem d1_9 : decode prog_13_method_1_code 9 = .ok (.invokespecial 9, 3) := by decide +kernel
theorem d1_12 : decode prog_13_method_1_code 12 = .ok (.putfield 10, 3) := by decide +kernel
theorem d1_15 : decode prog_13_method_1_code 15 = .ok (.aload_n 0, 1) := by decide +kernel
theorem d1_16 : decode prog_13_method_1_code 16 = .ok (.new 16, 3) := by decide +kernel
theorem d1_19 : decode prog_13_method_1_code 19 = .ok (.dup, 1) := by decide +kernel
theorem d1_20 : decode prog_13_method_1_code 20 = .ok (.invokespecial 18, 3) := by decide +kernel
theorem d1_23 : decode prog_13_method_1_code 23 = .ok (.putfield 19, 3) := by decide +kernel
theorem d1_26 : decode prog_13_method_1_code 26 = .ok (.aload_n 0, 1) := by decide +kernel
theorem d1_27 : decode prog_13_method_1_code 27 = .ok (.new 16, 3) := by decide +kernel
theorem d1_30 : decode prog_13_method_1_code 30 = .ok (.dup, 1) := by decide +kernel
theorem d1_31 : decode prog_13_method_1_code 31 = .ok (.invokespecial 18, 3) := by decide +kernel
theorem d1_34 : decode prog_13_method_1_code 34 = .ok (.putfield 23, 3) := by decide +kernel
theorem d1_37 : decode prog_13_method_1_code 37 = .ok (.return_, 1) := by decide +kernel
def Q_rm1 (Z : State) (a1 : Addr) (w_NB : Addr) (w_NW : Addr) (w_EL : Addr) (h0 : Heap) (n0 : Nat) (v : Option Value) (h : Heap) (L : List Loc) : Prop := ∃ (tl : Addr) (ka : Addr) (va : Addr), v = none ∧ Fr n0 L ∧ Keep h0 h [a1] ∧ h0.size ≤ tl ∧ h0.size ≤ ka ∧ h0.size ≤ va ∧ Exa Z h a1 "com/example/pointward/pointward/pointsto/ConstraintGraph" ∧ Fld Z h a1 "com/example/pointward/pointward/pointsto/ConstraintGraph" "fields" "Lcom/example/pointward/pointward/pointsto/LongTable;" (.ref tl) ∧ Fld Z h a1 "com/example/pointward/pointward/pointsto/ConstraintGraph" "nodeCount" "I" (.int (0 : Int32)) ∧ Tb Z h tl ka va (fun _ => none) 0
theorem rm1 (l : Launch) (Z : State) (a0 : Array Value) (hw : ∀ d ∈ tables_1, d.before a0 Z = true) (ws : List Jvm.Cond) {w_NB : Addr} {w_NW : Addr} {w_EL : Addr} (cx : Cx Z w_NB w_NW w_EL) (a1 : Addr) (h0 : Heap) (n0 : Nat) (O0 : Old Z n0 h0) (E1 : Exa Z h0 a1 "com/example/pointward/pointward/pointsto/ConstraintGraph") (F1 : Fld Z h0 a1 "com/example/pointward/pointward/pointsto/ConstraintGraph" "worklist" "Ljava/util/ArrayDeque;" .null) (F2 : Fld Z h0 a1 "com/example/pointward/pointward/pointsto/ConstraintGraph" "fields" "Lcom/example/pointward/pointward/pointsto/LongTable;" .null) (F3 : Fld Z h0 a1 "com/example/pointward/pointward/pointsto/ConstraintGraph" "edges" "Lcom/example/pointward/pointward/pointsto/LongTable;" .null) (F4 : Fld Z h0 a1 "com/example/pointward/pointward/pointsto/ConstraintGraph" "nodeCount" "I" (.int (0 : Int32))) (g_a1 : n0 ≤ a1) :
    OwnMet l (⟨"com/example/pointward/pointward/pointsto/ConstraintGraph", "<init>", "()V"⟩ : MethodName) (Jvm.Cond.code (⟨"com/example/pointward/pointward/pointsto/ConstraintGraph", "<init>", "()V"⟩ : MethodName) prog_13_method_1_code 1 none :: ws) (own_R 3 8 90 38) #[(.ref a1)] Z h0 (Q_rm1 Z a1 w_NB w_NW w_EL h0 n0) := by
  refine own_body (plainFor_of_name pn_1) hisR fun p e s m below meth c s₁ hx hby hml hown hnm hret hZ X0 e0 => ?_
  have N0 := Fr.nil n0
  have K0 : Keep h0 h0 [a1] := Keep.refl _ _
  have pre0 : ∀ t, Go p e below s₁ (mkF m 0 #[.val (.ref a1)] []) t → Go p e below s₁ (entryFrame m #[(.ref a1)] 1) t := fun t k => castTop (ef_1_R m a1) k
  have q21 := fun t (kt : Go p e below s₁ (mkF m 1 #[.val (.ref a1)] [(.ref a1)]) t) => pre0 t (by
    show Go p e below s₁ (mkF m 0 #[.val (.ref a1)] []) _
    refine XS.aloadN X0.here hx rfl (hb hby d1_0) rfl rfl ?_
    exact kt)
  obtain ⟨T22, X22, e22, st22⟩ := initO X0 hx hZ hown (own_w hw 6 rfl) (own_w hw 7 rfl) (own_w hw 8 rfl) e0 (g := (mkF m 1 #[.val (.ref a1)] [(.ref a1)])) rfl (by rw [hml]; rfl) rfl (hb hby d1_1) (by decide) (W := 0) (by show 2 * 0 + _ ≤ _; exact Nat.le_of_eq rfl) (by decide)
  have q23 := fun t (kt : Go p e below T22 (mkF m 4 #[.val (.ref a1)] []) t) => q21 t (st22 t kt)
  have q24 := fun t (kt : Go p e below T22 (mkF m 5 #[.val (.ref a1)] [(.ref a1)]) t) => q23 t (by
    show Go p e below T22 (mkF m 4 #[.val (.ref a1)] []) _
    refine XS.aloadN X22.here hx rfl (hb hby d1_4) rfl rfl ?_
    exact kt)
  obtain ⟨T25, h25, X25, e25, E25, A25, D25, U25, st25⟩ := newO X22 hx hZ hown (own_w hw 9 rfl) (own_w hw 10 rfl) (own_w hw 11 rfl) e22 (g := (mkF m 5 #[.val (.ref a1)] [(.ref a1)])) rfl (hb hby d1_5) (by decide) (by decide)
  obtain ⟨b25, g25⟩ : ∃ z, z = h0.size := ⟨_, rfl⟩
  rw [← g25] at A25 D25 st25
  have gg26 : n0 ≤ b25 := Nat.le_trans (O0.1 ▸ O0.2.1) (Nat.le_of_eq g25.symm)
  have sz27 : h0.size ≤ b25 := Nat.le_trans K0.1 (Nat.le_of_eq g25.symm)
  have q28 := fun t (kt : Go p e below T25 (mkF m 8 #[.val (.ref a1)] [(.ref b25), (.ref a1)]) t) => q24 t (st25 t kt)
  have O29 : Old Z n0 h25 := O0.ext E25
  have K30 : Keep h0 h25 [a1] := K0.ext E25
  have F25_elements : Fld Z h25 b25 "java/util/ArrayDeque" "elements" "[Ljava/lang/Object;" .null := D25 (Or.inl (own_w hw 25 rfl)) (ty := (.array (.object "java/lang/Object"))) (by decide)
  have q31 := fun t (kt : Go p e below T25 (mkF m 9 #[.val (.ref a1)] [(.ref b25), (.ref b25), (.ref a1)]) t) => q28 t (by
    show Go p e below T25 (mkF m 8 #[.val (.ref a1)] [(.ref b25), (.ref a1)]) _
    refine XS.dup X25.here hx rfl (hb hby d1_8) rfl rfl ?_
    exact kt)
  obtain ⟨_, _, ⟨T32, L32, k32, n32⟩, -, X32, ⟨Lc32, hQ32, l32, y32, z32⟩, st32⟩ := X25.specialBack hx (y := (⟨"java/util/ArrayDeque", "<init>", "()V"⟩ : MethodName)) rfl hown (mvT hZ (own_w hw 12 rfl)) (mvT hZ (own_w hw 13 rfl)) (mvT hZ (own_w hw 14 rfl)) (by decide) (backOf (W := 2) (rm3 l Z a0 hw [] cx b25 h25 n0 O29 A25 F25_elements gg26) hZ (own_w hw 14 rfl) (own_w hw 11 rfl) (by decide) (by decide)) (g := (mkF m 9 #[.val (.ref a1)] [(.ref b25), (.ref b25), (.ref a1)])) rfl (by rw [hml]; rfl) (Steps.refl _) (a := b25) (argsL := []) (rest := [(.ref b25), (.ref a1)]) (lenOf pd_0 rfl) rfl (by show 2 * 0 + _ ≤ _; exact Nat.le_of_eq rfl) (hb hby d1_9) (fun _ _ => ⟨rfl, e25, (by decide : 1 + 1 ≤ _), (by decide : 3 + 17 ≤ _)⟩)
  dsimp only [Pt.U, Pt.locs, Pt.cells, Pt.slots] at X32 l32 y32 z32 st32 hQ32
  subst l32 y32 z32
  obtain ⟨rfl, Nq32, Kq32⟩ := hQ32
  have N33 := Fr.app N0 Nq32
  have q34 := fun t (kt : Go p e below T32 (mkF m 12 #[.val (.ref a1)] [(.ref b25), (.ref a1)]) t) => q31 t (st32.trans kt)
  have O35 : Old Z n0 T32.heap := O29.keep Kq32 (allS gg26 all0)
  have K36 : Keep h0 T32.heap [a1] := K30.trans Kq32 (allS (Or.inr sz27) all0)
  have f37 : Exa Z T32.heap a1 "com/example/pointward/pointward/pointsto/ConstraintGraph" := ((E1.ext E25).keep Kq32)
  have f38 : Fld Z T32.heap a1 "com/example/pointward/pointward/pointsto/ConstraintGraph" "worklist" "Ljava/util/ArrayDeque;" .null := ((F1.ext E25).keep Kq32 (ninS (Nat.ne_of_lt (Nat.lt_of_lt_of_le E1.lt (Nat.le_of_eq g25.symm))) nin0))
  obtain ⟨T39, h39, X39, e39, W39, st39⟩ := putF X32 hx hZ hown (host := "") (Or.inl (own_w hw 26 rfl)) Via.refl rfl f38 f37 (Or.inr ⟨(own_w hw 27 rfl), rfl, hnm⟩) (own_w hw 1 rfl) (ty := (.object "java/util/ArrayDeque")) (by decide) rfl rfl (g := (mkF m 12 #[.val (.ref a1)] [(.ref b25), (.ref a1)])) rfl rfl (hb hby d1_12)
  have q40 := fun t (kt : Go p e below T39 (mkF m 15 #[.val (.ref a1)] []) t) => q34 t (st39 t kt)
  have f41 : Fld Z h39 a1 "com/example/pointward/pointward/pointsto/ConstraintGraph" "worklist" "Ljava/util/ArrayDeque;" (.ref b25) := f38.same W39
  have N42 := Fr.snoc X39 N33 g_a1
  have O43 : Old Z n0 h39 := O35.wr W39 g_a1
  have K44 : Keep h0 h39 [a1] := K36.wr W39 (Or.inl (List.mem_of_getElem? (i := 0) rfl))
  have q45 := fun t (kt : Go p e below T39 (mkF m 16 #[.val (.ref a1)] [(.ref a1)]) t) => q40 t (by
    show Go p e below T39 (mkF m 15 #[.val (.ref a1)] []) _
    refine XS.aloadN X39.here hx rfl (hb hby d1_15) rfl rfl ?_
    exact kt)
  obtain ⟨T46, h46, X46, e46, E46, A46, D46, U46, st46⟩ := newO X39 hx hZ hown (own_w hw 28 rfl) (own_w hw 29 rfl) (own_w hw 30 rfl) e39 (g := (mkF m 16 #[.val (.ref a1)] [(.ref a1)])) rfl (hb hby d1_16) (by decide) (by decide)
  obtain ⟨b46, g46⟩ : ∃ z, z = h39.size := ⟨_, rfl⟩
  rw [← g46] at A46 D46 st46
  have gg47 : n0 ≤ b46 := Nat.le_trans (O43.1 ▸ O43.2.1) (Nat.le_of_eq g46.symm)
  have sz48 : h0.size ≤ b46 := Nat.le_trans K44.1 (Nat.le_of_eq g46.symm)
  have q49 := fun t (kt : Go p e below T46 (mkF m 19 #[.val (.ref a1)] [(.ref b46), (.ref a1)]) t) => q45 t (st46 t kt)
  have O50 : Old Z n0 h46 := O43.ext E46
  have K51 : Keep h0 h46 [a1] := K44.ext E46
  have F46_keys : Fld Z h46 b46 "com/example/pointward/pointward/pointsto/LongTable" "keys" "[J" .null := D46 (Or.inl (own_w hw 37 rfl)) (ty := (.array .long)) (by decide)
  have F46_values : Fld Z h46 b46 "com/example/pointward/pointward/pointsto/LongTable" "values" "[Ljava/lang/Object;" .null := D46 (Or.inl (own_w hw 40 rfl)) (ty := (.array (.object "java/lang/Object"))) (by decide)
  have F46_size : Fld Z h46 b46 "com/example/pointward/pointward/pointsto/LongTable" "size" "I" (.int (0 : Int32)) := D46 (Or.inl (own_w hw 137 rfl)) (ty := .int) (by decide)
  have q52 := fun t (kt : Go p e below T46 (mkF m 20 #[.val (.ref a1)] [(.ref b46), (.ref b46), (.ref a1)]) t) => q49 t (by
    show Go p e below T46 (mkF m 19 #[.val (.ref a1)] [(.ref b46), (.ref a1)]) _
    refine XS.dup X46.here hx rfl (hb hby d1_19) rfl rfl ?_
    exact kt)
  obtain ⟨_, _, ⟨T53, L53, k53, n53⟩, -, X53, ⟨Lc53, hQ53, l53, y53, z53⟩, st53⟩ := X46.specialBack hx (y := (⟨"com/example/pointward/pointward/pointsto/LongTable", "<init>", "()V"⟩ : MethodName)) rfl hown (mvT hZ (own_w hw 31 rfl)) (mvT hZ (own_w hw 32 rfl)) (mvT hZ (own_w hw 33 rfl)) (by decide) (backOf (W := 2) (rm5 l Z a0 hw [] cx b46 h46 n0 O50 A46 F46_keys F46_values F46_size gg47) hZ (own_w hw 33 rfl) (own_w hw 30 rfl) (by decide) (by decide)) (g := (mkF m 20 #[.val (.ref a1)] [(.ref b46), (.ref b46), (.ref a1)])) rfl (by rw [hml]; rfl) (Steps.refl _) (a := b46) (argsL := []) (rest := [(.ref b46), (.ref a1)]) (lenOf pd_0 rfl) rfl (by show 2 * 0 + _ ≤ _; exact Nat.le_of_eq rfl) (hb hby d1_20) (fun _ _ => ⟨rfl, e46, (by decide : 3 + 2 ≤ _), (by decide : 23 + 32 ≤ _)⟩)
  dsimp only [Pt.U, Pt.locs, Pt.cells, Pt.slots] at X53 l53 y53 z53 st53 hQ53
  subst l53 y53 z53
  obtain ⟨ka_53, va_53, rfl, Nq53, Kq53, fr53_0, fr53_1, fq53_0⟩ := hQ53
  have N54 := Fr.app N42 Nq53
  have q55 := fun t (kt : Go p e below T53 (mkF m 23 #[.val (.ref a1)] [(.ref b46), (.ref a1)]) t) => q52 t (st53.trans kt)
  have gg56 : n0 ≤ ka_53 := Nat.le_trans (O50.1 ▸ O50.2.1) fr53_0
  have sz57 : h0.size ≤ ka_53 := Nat.le_trans K51.1 fr53_0
  have gg58 : n0 ≤ va_53 := Nat.le_trans (O50.1 ▸ O50.2.1) fr53_1
  have sz59 : h0.size ≤ va_53 := Nat.le_trans K51.1 fr53_1
  have O60 : Old Z n0 T53.heap := O50.keep Kq53 (allS gg47 all0)
  have K61 : Keep h0 T53.heap [a1] := K51.trans Kq53 (allS (Or.inr sz48) all0)
  have f62 : Exa Z T53.heap a1 "com/example/pointward/pointward/pointsto/ConstraintGraph" := (((f37.wr W39).ext E46).keep Kq53)
  have f63 : Fld Z T53.heap a1 "com/example/pointward/pointward/pointsto/ConstraintGraph" "fields" "Lcom/example/pointward/pointward/pointsto/LongTable;" .null := (((((F2.ext E25).keep Kq32 (ninS (Nat.ne_of_lt (Nat.lt_of_lt_of_le E1.lt (Nat.le_of_eq g25.symm))) nin0)).other W39 (Or.inr (slot_ne (Or.inr (own_w hw 42 rfl)) (Or.inr (own_w hw 27 rfl)) (by decide) (t := (.object "com/example/pointward/pointward/pointsto/LongTable")) (t' := (.object "java/util/ArrayDeque")) (by decide) (by decide)))).ext E46).keep Kq53 (ninS (Nat.ne_of_lt (Nat.lt_of_lt_of_le (f37.wr W39).lt (Nat.le_of_eq g46.symm))) nin0))
  obtain ⟨T64, h64, X64, e64, W64, st64⟩ := putF X53 hx hZ hown (host := "") (Or.inl (own_w hw 41 rfl)) Via.refl rfl f63 f62 (Or.inr ⟨(own_w hw 42 rfl), rfl, hnm⟩) (own_w hw 1 rfl) (ty := (.object "com/example/pointward/pointward/pointsto/LongTable")) (by decide) rfl rfl (g := (mkF m 23 #[.val (.ref a1)] [(.ref b46), (.ref a1)])) rfl rfl (hb hby d1_23)
  have q65 := fun t (kt : Go p e below T64 (mkF m 26 #[.val (.ref a1)] []) t) => q55 t (st64 t kt)
  have f66 : Fld Z h64 a1 "com/example/pointward/pointward/pointsto/ConstraintGraph" "fields" "Lcom/example/pointward/pointward/pointsto/LongTable;" (.ref b46) := f63.same W64
  have N67 := Fr.snoc X64 N54 g_a1
  have O68 : Old Z n0 h64 := O60.wr W64 g_a1
  have K69 : Keep h0 h64 [a1] := K61.wr W64 (Or.inl (List.mem_of_getElem? (i := 0) rfl))
  have q70 := fun t (kt : Go p e below T64 (mkF m 27 #[.val (.ref a1)] [(.ref a1)]) t) => q65 t (by
    show Go p e below T64 (mkF m 26 #[.val (.ref a1)] []) _
    refine XS.aloadN X64.here hx rfl (hb hby d1_26) rfl rfl ?_
    exact kt)
  obtain ⟨T71, h71, X71, e71, E71, A71, D71, U71, st71⟩ := newO X64 hx hZ hown (own_w hw 28 rfl) (own_w hw 29 rfl) (own_w hw 30 rfl) e64 (g := (mkF m 27 #[.val (.ref a1)] [(.ref a1)])) rfl (hb hby d1_27) (by decide) (by decide)
  obtain ⟨b71, g71⟩ : ∃ z, z = h64.size := ⟨_, rfl⟩
  rw [← g71] at A71 D71 st71
  have gg72 : n0 ≤ b71 := Nat.le_trans (O68.1 ▸ O68.2.1) (Nat.le_of_eq g71.symm)
  have sz73 : h0.size ≤ b71 := Nat.le_trans K69.1 (Nat.le_of_eq g71.symm)
  have q74 := fun t (kt : Go p e below T71 (mkF m 30 #[.val (.ref a1)] [(.ref b71), (.ref a1)]) t) => q70 t (st71 t kt)
  have O75 : Old Z n0 h71 := O68.ext E71
  have K76 : Keep h0 h71 [a1] := K69.ext E71
  have F71_keys : Fld Z h71 b71 "com/example/pointward/pointward/pointsto/LongTable" "keys" "[J" .null := D71 (Or.inl (own_w hw 37 rfl)) (ty := (.array .long)) (by decide)
  have F71_values : Fld Z h71 b71 "com/example/pointward/pointward/pointsto/LongTable" "values" "[Ljava/lang/Object;" .null := D71 (Or.inl (own_w hw 40 rfl)) (ty := (.array (.object "java/lang/Object"))) (by decide)
  have F71_size : Fld Z h71 b71 "com/example/pointward/pointward/pointsto/LongTable" "size" "I" (.int (0 : Int32)) := D71 (Or.inl (own_w hw 137 rfl)) (ty := .int) (by decide)
  have q77 := fun t (kt : Go p e below T71 (mkF m 31 #[.val (.ref a1)] [(.ref b71), (.ref b71), (.ref a1)]) t) => q74 t (by
    show Go p e below T71 (mkF m 30 #[.val (.ref a1)] [(.ref b71), (.ref a1)]) _
    refine XS.dup X71.here hx rfl (hb hby d1_30) rfl rfl ?_
    exact kt)
  obtain ⟨_, _, ⟨T78, L78, k78, n78⟩, -, X78, ⟨Lc78, hQ78, l78, y78, z78⟩, st78⟩ := X71.specialBack hx (y := (⟨"com/example/pointward/pointward/pointsto/LongTable", "<init>", "()V"⟩ : MethodName)) rfl hown (mvT hZ (own_w hw 31 rfl)) (mvT hZ (own_w hw 32 rfl)) (mvT hZ (own_w hw 33 rfl)) (by decide) (backOf (W := 2) (rm5 l Z a0 hw [] cx b71 h71 n0 O75 A71 F71_keys F71_values F71_size gg72) hZ (own_w hw 33 rfl) (own_w hw 30 rfl) (by decide) (by decide)) (g := (mkF m 31 #[.val (.ref a1)] [(.ref b71), (.ref b71), (.ref a1)])) rfl (by rw [hml]; rfl) (Steps.refl _) (a := b71) (argsL := []) (rest := [(.ref b71), (.ref a1)]) (lenOf pd_0 rfl) rfl (by show 2 * 0 + _ ≤ _; exact Nat.le_of_eq rfl) (hb hby d1_31) (fun _ _ => ⟨rfl, e71, (by decide : 6 + 2 ≤ _), (by decide : 58 + 32 ≤ _)⟩)
  dsimp only [Pt.U, Pt.locs, Pt.cells, Pt.slots] at X78 l78 y78 z78 st78 hQ78
  subst l78 y78 z78
  obtain ⟨ka_78, va_78, rfl, Nq78, Kq78, fr78_0, fr78_1, fq78_0⟩ := hQ78
  have N79 := Fr.app N67 Nq78
  have q80 := fun t (kt : Go p e below T78 (mkF m 34 #[.val (.ref a1)] [(.ref b71), (.ref a1)]) t) => q77 t (st78.trans kt)
  have gg81 : n0 ≤ ka_78 := Nat.le_trans (O75.1 ▸ O75.2.1) fr78_0
  have sz82 : h0.size ≤ ka_78 := Nat.le_trans K76.1 fr78_0
  have gg83 : n0 ≤ va_78 := Nat.le_trans (O75.1 ▸ O75.2.1) fr78_1
  have sz84 : h0.size ≤ va_78 := Nat.le_trans K76.1 fr78_1
  have O85 : Old Z n0 T78.heap := O75.keep Kq78 (allS gg72 all0)
  have K86 : Keep h0 T78.heap [a1] := K76.trans Kq78 (allS (Or.inr sz73) all0)
  have f87 : Exa Z T78.heap a1 "com/example/pointward/pointward/pointsto/ConstraintGraph" := (((f62.wr W64).ext E71).keep Kq78)
  have f88 : Fld Z T78.heap a1 "com/example/pointward/pointward/pointsto/ConstraintGraph" "edges" "Lcom/example/pointward/pointward/pointsto/LongTable;" .null := ((((((((F3.ext E25).keep Kq32 (ninS (Nat.ne_of_lt (Nat.lt_of_lt_of_le E1.lt (Nat.le_of_eq g25.symm))) nin0)).other W39 (Or.inr (slot_ne (Or.inr (own_w hw 44 rfl)) (Or.inr (own_w hw 27 rfl)) (by decide) (t := (.object "com/example/pointward/pointward/pointsto/LongTable")) (t' := (.object "java/util/ArrayDeque")) (by decide) (by decide)))).ext E46).keep Kq53 (ninS (Nat.ne_of_lt (Nat.lt_of_lt_of_le (f37.wr W39).lt (Nat.le_of_eq g46.symm))) nin0)).other W64 (Or.inr (slot_ne (Or.inr (own_w hw 44 rfl)) (Or.inr (own_w hw 42 rfl)) (by decide) (t := (.object "com/example/pointward/pointward/pointsto/LongTable")) (t' := (.object "com/example/pointward/pointward/pointsto/LongTable")) (by decide) (by decide)))).ext E71).keep Kq78 (ninS (Nat.ne_of_lt (Nat.lt_of_lt_of_le (f62.wr W64).lt (Nat.le_of_eq g71.symm))) nin0))
  obtain ⟨T89, h89, X89, e89, W89, st89⟩ := putF X78 hx hZ hown (host := "") (Or.inl (own_w hw 43 rfl)) Via.refl rfl f88 f87 (Or.inr ⟨(own_w hw 44 rfl), rfl, hnm⟩) (own_w hw 1 rfl) (ty := (.object "com/example/pointward/pointward/pointsto/LongTable")) (by decide) rfl rfl (g := (mkF m 34 #[.val (.ref a1)] [(.ref b71), (.ref a1)])) rfl rfl (hb hby d1_34)
  have q90 := fun t (kt : Go p e below T89 (mkF m 37 #[.val (.ref a1)] []) t) => q80 t (st89 t kt)
  have f91 : Fld Z h89 a1 "com/example/pointward/pointward/pointsto/ConstraintGraph" "edges" "Lcom/example/pointward/pointward/pointsto/LongTable;" (.ref b71) := f88.same W89
  have N92 := Fr.snoc X89 N79 g_a1
  have O93 : Old Z n0 h89 := O85.wr W89 g_a1
  have K94 : Keep h0 h89 [a1] := K86.wr W89 (Or.inl (List.mem_of_getElem? (i := 0) rfl))
  have f95 : Exa Z h89 a1 "com/example/pointward/pointward/pointsto/ConstraintGraph" := (f87.wr W89)
  have f96 : Fld Z h89 a1 "com/example/pointward/pointward/pointsto/ConstraintGraph" "fields" "Lcom/example/pointward/pointward/pointsto/LongTable;" (.ref b46) := (((f66.ext E71).keep Kq78 (ninS (Nat.ne_of_lt (Nat.lt_of_lt_of_le (f62.wr W64).lt (Nat.le_of_eq g71.symm))) nin0)).other W89 (Or.inr (slot_ne (Or.inr (own_w hw 42 rfl)) (Or.inr (own_w hw 44 rfl)) (by decide) (t := (.object "com/example/pointward/pointward/pointsto/LongTable")) (t' := (.object "com/example/pointward/pointward/pointsto/LongTable")) (by decide) (by decide))))
  have f97 : Fld Z h89 a1 "com/example/pointward/pointward/pointsto/ConstraintGraph" "nodeCount" "I" (.int (0 : Int32)) := (((((((((F4.ext E25).keep Kq32 (ninS (Nat.ne_of_lt (Nat.lt_of_lt_of_le E1.lt (Nat.le_of_eq g25.symm))) nin0)).other W39 (Or.inr (slot_ne (Or.inl (own_w hw 78 rfl)) (Or.inr (own_w hw 27 rfl)) (by decide) (t := .int) (t' := (.object "java/util/ArrayDeque")) (by decide) (by decide)))).ext E46).keep Kq53 (ninS (Nat.ne_of_lt (Nat.lt_of_lt_of_le (f37.wr W39).lt (Nat.le_of_eq g46.symm))) nin0)).other W64 (Or.inr (slot_ne (Or.inl (own_w hw 78 rfl)) (Or.inr (own_w hw 42 rfl)) (by decide) (t := .int) (t' := (.object "com/example/pointward/pointward/pointsto/LongTable")) (by decide) (by decide)))).ext E71).keep Kq78 (ninS (Nat.ne_of_lt (Nat.lt_of_lt_of_le (f62.wr W64).lt (Nat.le_of_eq g71.symm))) nin0)).other W89 (Or.inr (slot_ne (Or.inl (own_w hw 78 rfl)) (Or.inr (own_w hw 44 rfl)) (by decide) (t := .int) (t' := (.object "com/example/pointward/pointward/pointsto/LongTable")) (by decide) (by decide))))
  have f98 : Tb Z h89 b46 ka_53 va_53 (fun _ => none) 0 := ((((fq53_0.keep (Keep.of_wr W64) (ninS (Ne.symm (Nat.ne_of_lt (Nat.lt_of_lt_of_le (f37.wr W39).lt (Nat.le_of_eq g46.symm)))) nin0) (ninS (Ne.symm (Nat.ne_of_lt (Nat.lt_of_lt_of_le ((f37.wr W39).ext E46).lt fr53_0))) nin0) (ninS (Ne.symm (Nat.ne_of_lt (Nat.lt_of_lt_of_le ((f37.wr W39).ext E46).lt fr53_1))) nin0)).ext E71).keep Kq78 (ninS (Nat.ne_of_lt (Nat.lt_of_lt_of_le ((A46.keep Kq53).wr W64).lt (Nat.le_of_eq g71.symm))) nin0) (ninS (Nat.ne_of_lt (Nat.lt_of_lt_of_le (fq53_0.keep (Keep.of_wr W64) (ninS (Ne.symm (Nat.ne_of_lt (Nat.lt_of_lt_of_le (f37.wr W39).lt (Nat.le_of_eq g46.symm)))) nin0) (ninS (Ne.symm (Nat.ne_of_lt (Nat.lt_of_lt_of_le ((f37.wr W39).ext E46).lt fr53_0))) nin0) (ninS (Ne.symm (Nat.ne_of_lt (Nat.lt_of_lt_of_le ((f37.wr W39).ext E46).lt fr53_1))) nin0)).lt1 (Nat.le_of_eq g71.symm))) nin0) (ninS (Nat.ne_of_lt (Nat.lt_of_lt_of_le (fq53_0.keep (Keep.of_wr W64) (ninS (Ne.symm (Nat.ne_of_lt (Nat.lt_of_lt_of_le (f37.wr W39).lt (Nat.le_of_eq g46.symm)))) nin0) (ninS (Ne.symm (Nat.ne_of_lt (Nat.lt_of_lt_of_le ((f37.wr W39).ext E46).lt fr53_0))) nin0) (ninS (Ne.symm (Nat.ne_of_lt (Nat.lt_of_lt_of_le ((f37.wr W39).ext E46).lt fr53_1))) nin0)).lt2 (Nat.le_of_eq g71.symm))) nin0)).keep (Keep.of_wr W89) (ninS (Ne.symm (Nat.ne_of_lt (Nat.lt_of_lt_of_le (f37.wr W39).lt (Nat.le_of_eq g46.symm)))) nin0) (ninS (Ne.symm (Nat.ne_of_lt (Nat.lt_of_lt_of_le ((f37.wr W39).ext E46).lt fr53_0))) nin0) (ninS (Ne.symm (Nat.ne_of_lt (Nat.lt_of_lt_of_le ((f37.wr W39).ext E46).lt fr53_1))) nin0))
  exact ⟨none, T89, _, _, _, _, X89, by decide, by decide, fun _ => rfl, q90, fun fs hr => X89.returnOut hx hret (hb hby d1_37) hr, by rw [e89]; exact ⟨b46, ka_53, va_53, rfl, N92, K94, sz48, sz57, sz59, f95, f96, f97, f98⟩⟩
theorem ef_6_IIII (m : MethodId) (x0 : Int32) (x1 : Int32) (x2 : Int32) (x3 : Int32) : entryFrame m #[(.int x0), (.int x1), (.int x2), (.int x3)] 4 = mkF m 0 #[.val (.int x0), .val (.int x1), .val (.int x2), .val (.int x3)] [] := by first | (simp [entryFrame, mkF, argsToLocals, Value.category]; done) | rfl
theorem pn_6 : plainName "com/example/pointward/pointward/pointsto/ConstraintGraphExistingFieldPinLaw" = true := by first | (simp [plainName, overriddenIn]; done) | decide +kernel
theorem d6_0 : decode method_2_code 0 = .ok (.iload_n 0, 1) := by decide +kernel
theorem d6_1 : decode method_2_code 1 = .ok (.ifCond .ne 5, 3) := by decide +kernel
theorem d6_4 : decode method_2_code 4 = .ok (.iload_n 1, 1) := by decide +kernel
theorem d6_5 : decode method_2_code 5 = .ok (.ireturn, 1) := by decide +kernel
theorem d6_6 : decode method_2_code 6 = .ok (.iload_n 0, 1) := by decide +kernel
theorem d6_7 : decode method_2_code 7 = .ok (.iconst 1, 1) := by decide +kernel
theorem d6_8 : decode method_2_code 8 = .ok (.if_icmp .ne 5, 3) := by decide +kernel
theorem d6_11 : decode method_2_code 11 = .ok (.iload_n 2, 1) := by decide +kernel
theorem d6_12 : decode method_2_code 12 = .ok (.ireturn, 1) := by decide +kernel
theorem d6_13 : decode method_2_code 13 = .ok (.iload_n 3, 1) := by decide +kernel
theorem d6_14 : decode method_2_code 14 = .ok (.ireturn, 1) := by decide +kernel
def Q_rm6 (Z : State) (p1 : Int32) (p2 : Int32) (p3 : Int32) (p4 : Int32) (w_NB : Addr) (w_NW : Addr) (w_EL : Addr) (h0 : Heap) (n0 : Nat) (v : Option Value) (h : Heap) (L : List Loc) : Prop := ∃ (r : Int32), v = some (.int r) ∧ Fr n0 L ∧ h = h0 ∧ (r = p2 ∨ r = p3 ∨ r = p4)
theorem rm6 (l : Launch) (Z : State) (a0 : Array Value) (hw : ∀ d ∈ tables_1, d.before a0 Z = true) (ws : List Jvm.Cond) {w_NB : Addr} {w_NW : Addr} {w_EL : Addr} (cx : Cx Z w_NB w_NW w_EL) (p1 : Int32) (p2 : Int32) (p3 : Int32) (p4 : Int32) (h0 : Heap) (n0 : Nat) (O0 : Old Z n0 h0) :
    OwnMet l (⟨"com/example/pointward/pointward/pointsto/ConstraintGraphExistingFieldPinLaw", "pickSite", "(IIII)I"⟩ : MethodName) (Jvm.Cond.code (⟨"com/example/pointward/pointward/pointsto/ConstraintGraphExistingFieldPinLaw", "pickSite", "(IIII)I"⟩ : MethodName) method_2_code 4 (some .int) :: ws) (own_R 0 0 0 0) #[(.int p1), (.int p2), (.int p3), (.int p4)] Z h0 (Q_rm6 Z p1 p2 p3 p4 w_NB w_NW w_EL h0 n0) := by
  refine own_body (plainFor_of_name pn_6) hisR fun p e s m below meth c s₁ hx hby hml hown hnm hret hZ X0 e0 => ?_
  have N0 := Fr.nil n0
  have pre0 : ∀ t, Go p e below s₁ (mkF m 0 #[.val (.int p1), .val (.int p2), .val (.int p3), .val (.int p4)] []) t → Go p e below s₁ (entryFrame m #[(.int p1), (.int p2), (.int p3), (.int p4)] 4) t := fun t k => castTop (ef_6_IIII m p1 p2 p3 p4) k
  have q21 := fun t (kt : Go p e below s₁ (mkF m 1 #[.val (.int p1), .val (.int p2), .val (.int p3), .val (.int p4)] [(.int p1)]) t) => pre0 t (by
    show Go p e below s₁ (mkF m 0 #[.val (.int p1), .val (.int p2), .val (.int p3), .val (.int p4)] []) _
    refine XS.iloadN X0.here hx rfl (hb hby d6_0) rfl ?_
    exact kt)
  by_cases hc22 : p1 = (0 : Int32)
  · have q23 := fun t (kt : Go p e below s₁ (mkF m 5 #[.val (.int p1), .val (.int p2), .val (.int p3), .val (.int p4)] [(.int p2)]) t) => q21 t (by
      show Go p e below s₁ (mkF m 1 #[.val (.int p1), .val (.int p2), .val (.int p3), .val (.int p4)] [(.int p1)]) _
      refine XS.ifNo X0.here hx rfl (hb hby d6_1) rfl ((if0 _ _).trans (teq hc22).2) ?_
      show Go p e below s₁ (mkF m 4 #[.val (.int p1), .val (.int p2), .val (.int p3), .val (.int p4)] []) _
      refine XS.iloadN X0.here hx rfl (hb hby d6_4) rfl ?_
      exact kt)
    exact ⟨some (.int p2), s₁, _, _, _, _, X0, by decide, by decide, nofun, q23, fun fs hr => retI X0 hx hret (hb hby d6_5) hr, by rw [e0]; exact ⟨p2, rfl, N0, rfl, (Or.inl rfl)⟩⟩
  · have q24 := fun t (kt : Go p e below s₁ (mkF m 8 #[.val (.int p1), .val (.int p2), .val (.int p3), .val (.int p4)] [(.int (1 : Int32)), (.int p1)]) t) => q21 t (by
      show Go p e below s₁ (mkF m 1 #[.val (.int p1), .val (.int p2), .val (.int p3), .val (.int p4)] [(.int p1)]) _
      refine XS.ifYes X0.here hx rfl (pc0 := 1) (pc' := 6) rfl (hb hby d6_1) rfl ((if0 _ _).trans (feq hc22).2) (by decide) (by decide) ?_
      show Go p e below s₁ (mkF m 6 #[.val (.int p1), .val (.int p2), .val (.int p3), .val (.int p4)] []) _
      refine XS.iloadN X0.here hx rfl (hb hby d6_6) rfl ?_
      show Go p e below s₁ (mkF m 7 #[.val (.int p1), .val (.int p2), .val (.int p3), .val (.int p4)] [(.int p1)]) _
      refine XS.iconst X0.here hx rfl (hb hby d6_7) ?_
      exact kt)
    by_cases hc25 : p1 = (1 : Int32)
    · have q26 := fun t (kt : Go p e below s₁ (mkF m 12 #[.val (.int p1), .val (.int p2), .val (.int p3), .val (.int p4)] [(.int p3)]) t) => q24 t (by
        show Go p e below s₁ (mkF m 8 #[.val (.int p1), .val (.int p2), .val (.int p3), .val (.int p4)] [(.int (1 : Int32)), (.int p1)]) _
        refine XS.icmpNo X0.here hx rfl (hb hby d6_8) rfl (teq hc25).2 ?_
        show Go p e below s₁ (mkF m 11 #[.val (.int p1), .val (.int p2), .val (.int p3), .val (.int p4)] []) _
        refine XS.iloadN X0.here hx rfl (hb hby d6_11) rfl ?_
        exact kt)
      exact ⟨some (.int p3), s₁, _, _, _, _, X0, by decide, by decide, nofun, q26, fun fs hr => retI X0 hx hret (hb hby d6_12) hr, by rw [e0]; exact ⟨p3, rfl, N0, rfl, (Or.inr (Or.inl rfl))⟩⟩
    · have q27 := fun t (kt : Go p e below s₁ (mkF m 14 #[.val (.int p1), .val (.int p2), .val (.int p3), .val (.int p4)] [(.int p4)]) t) => q24 t (by
        show Go p e below s₁ (mkF m 8 #[.val (.int p1), .val (.int p2), .val (.int p3), .val (.int p4)] [(.int (1 : Int32)), (.int p1)]) _
        refine XS.icmpYes X0.here hx rfl (pc0 := 8) (pc' := 13) rfl (hb hby d6_8) rfl (feq hc25).2 (by decide) (by decide) ?_
        show Go p e below s₁ (mkF m 13 #[.val (.int p1), .val (.int p2), .val (.int p3), .val (.int p4)] []) _
        refine XS.iloadN X0.here hx rfl (hb hby d6_13) rfl ?_
        exact kt)
      exact ⟨some (.int p4), s₁, _, _, _, _, X0, by decide, by decide, nofun, q27, fun fs hr => retI X0 hx hret (hb hby d6_14) hr, by rw [e0]; exact ⟨p4, rfl, N0, rfl, (Or.inr (Or.inr rfl))⟩⟩
theorem d8_15 : decode prog_17_method_2_code 15 = .ok (.aload_n 0, 1) := by decide +kernel
theorem d8_16 : decode prog_17_method_2_code 16 = .ok (.getfield 13, 3) := by decide +kernel
theorem d8_19 : decode prog_17_method_2_code 19 = .ok (.iload 4, 2) := by decide +kernel
theorem d8_21 : decode prog_17_method_2_code 21 = .ok (.aaload, 1) := by decide +kernel
theorem d8_22 : decode prog_17_method_2_code 22 = .ok (.ifnull 34, 3) := by decide +kernel
theorem d8_25 : decode prog_17_method_2_code 25 = .ok (.aload_n 0, 1) := by decide +kernel
theorem d8_26 : decode prog_17_method_2_code 26 = .ok (.getfield 7, 3) := by decide +kernel
theorem d8_29 : decode prog_17_method_2_code 29 = .ok (.iload 4, 2) := by decide +kernel
theorem d8_31 : decode prog_17_method_2_code 31 = .ok (.laload, 1) := by decide +kernel
theorem d8_32 : decode prog_17_method_2_code 32 = .ok (.lload_n 1, 1) := by decide +kernel
theorem d8_33 : decode prog_17_method_2_code 33 = .ok (.lcmp, 1) := by decide +kernel
theorem d8_34 : decode prog_17_method_2_code 34 = .ok (.ifCond .ne 11, 3) := by decide +kernel
theorem d8_45 : decode prog_17_method_2_code 45 = .ok (.iload 4, 2) := by decide +kernel
theorem d8_47 : decode prog_17_method_2_code 47 = .ok (.iconst 1, 1) := by decide +kernel
theorem d8_48 : decode prog_17_method_2_code 48 = .ok (.iadd, 1) := by decide +kernel
theorem d8_49 : decode prog_17_method_2_code 49 = .ok (.iload_n 3, 1) := by decide +kernel
theorem d8_50 : decode prog_17_method_2_code 50 = .ok (.iand, 1) := by decide +kernel
theorem d8_51 : decode prog_17_method_2_code 51 = .ok (.istore 4, 2) := by decide +kernel
theorem d8_53 : decode prog_17_method_2_code 53 = .ok (.goto (-38), 3) := by decide +kernel
theorem tn8_turn {p : Program} {l : Launch} {e : Env} {R : Room} {s : State} {m : MethodId} {args : Array Value} {below : List Frame} {meth : Method} {c : Code} {T0 : State} {locs : List Loc} {cells slots : Nat} {Z : State} {a0 : Array Value} {h0 : Heap} (a1 : Addr) (ka : Addr) (va : Addr) (q2 : Int64) (i : Nat) (K : Nat → Int64) (V : Nat → Option Addr) (kk : ClassId) (kv : ClassId) (a' : Addr)
    (X0 : Stand p l e R s m args below meth c T0 locs cells slots) (hx : p.tables.exec = Jvm.exec) (hZ : Z.Warmed39 s.vm) (hw : ∀ d ∈ tables_1, d.before a0 Z = true) (hby : c.code = prog_17_method_2_code) (hml : c.maxLocals = 5) (hown : s.vm.findClass "com/example/pointward/pointward/pointsto/LongTable" = some m.cls) (e0 : T0.heap = h0) (Fk : Fld Z h0 a1 "com/example/pointward/pointward/pointsto/LongTable" "keys" "[J" (.ref ka)) (Fv : Fld Z h0 a1 "com/example/pointward/pointward/pointsto/LongTable" "values" "[Ljava/lang/Object;" (.ref va)) (Ak : Arv Z h0 ka kk .long (16 : Int32) (own_kl K) (.long (0 : Int64))) (Av : Arv Z h0 va kv (.object "java/lang/Object") (16 : Int32) (own_vl V) .null) (hi : i < 16) (hv : V i = some a') (hk : ¬ (K i = q2)) :
    ∃ T' : State, Stand p l e R s m args below meth c T' locs cells slots ∧ T'.heap = h0 ∧ ∀ t, Steps p.tables e below (T'.setTop (mkF m 15 #[.val (.ref a1), .val (.long q2), .second, .val (.int (15 : Int32)), .val (.int (Int32.ofNat ((i + 1) % 16)))] [])) t → Go p e below T0 (mkF m 15 #[.val (.ref a1), .val (.long q2), .second, .val (.int (15 : Int32)), .val (.int (Int32.ofNat i))] []) t := by
  have pre0 : ∀ t, Go p e below T0 (mkF m 15 #[.val (.ref a1), .val (.long q2), .second, .val (.int (15 : Int32)), .val (.int (Int32.ofNat i))] []) t → Go p e below T0 (mkF m 15 #[.val (.ref a1), .val (.long q2), .second, .val (.int (15 : Int32)), .val (.int (Int32.ofNat i))] []) t := fun _ k => k
  have q21 := fun t (kt : Go p e below T0 (mkF m 16 #[.val (.ref a1), .val (.long q2), .second, .val (.int (15 : Int32)), .val (.int (Int32.ofNat i))] [(.ref a1)]) t) => pre0 t (by
    show Go p e below T0 (mkF m 15 #[.val (.ref a1), .val (.long q2), .second, .val (.int (15 : Int32)), .val (.int (Int32.ofNat i))] []) _
    refine XS.aloadN X0.here hx rfl (hb hby d8_15) rfl rfl ?_
    exact kt)
  obtain ⟨T22, X22, e22, st22⟩ := getF X0 hx hZ hown (host := "") (Or.inl (own_w hw 39 rfl)) Via.refl e0 Fv (g := (mkF m 16 #[.val (.ref a1), .val (.long q2), .second, .val (.int (15 : Int32)), .val (.int (Int32.ofNat i))] [(.ref a1)])) rfl rfl (hb hby d8_16)
  have q23 := fun t (kt : Go p e below T22 (mkF m 19 #[.val (.ref a1), .val (.long q2), .second, .val (.int (15 : Int32)), .val (.int (Int32.ofNat i))] [(.ref va)]) t) => q21 t (st22 t kt)
  have q25 := fun t (kt : Go p e below T22 (mkF m 21 #[.val (.ref a1), .val (.long q2), .second, .val (.int (15 : Int32)), .val (.int (Int32.ofNat i))] [(.int (Int32.ofNat i)), (.ref va)]) t) => q23 t (by
    show Go p e below T22 (mkF m 19 #[.val (.ref a1), .val (.long q2), .second, .val (.int (15 : Int32)), .val (.int (Int32.ofNat i))] [(.ref va)]) _
    refine XS.iload X22.here hx rfl (hb hby d8_19) rfl ?_
    exact kt)
  obtain ⟨c24, Ar24, -, S24, N24, H24, -⟩ := id Av
  have q26 := fun t (kt : Go p e below T22 (mkF m 26 #[.val (.ref a1), .val (.long q2), .second, .val (.int (15 : Int32)), .val (.int (Int32.ofNat i))] [(.ref a1)]) t) => q25 t (by
    show Go p e below T22 (mkF m 21 #[.val (.ref a1), .val (.long q2), .second, .val (.int (15 : Int32)), .val (.int (Int32.ofNat i))] [(.int (Int32.ofNat i)), (.ref va)]) _
    refine X22.aaload hx (j := (Int32.ofNat i)) (v := (.ref a')) (by rw [e22]; exact Ar24.1) (State.isArrayOf_alike hZ.alike Ar24.2.1) rfl Ar24.2.2 (inb_of S24 ⟨(own_ofn hi).2.1, (own_ofn hi).2.2.1⟩) (Has.at H24 (inb_of S24 ⟨(own_ofn hi).2.1, (own_ofn hi).2.2.1⟩) ((own_atV V hi).trans (by rw [hv]; rfl))) (g := (mkF m 21 #[.val (.ref a1), .val (.long q2), .second, .val (.int (15 : Int32)), .val (.int (Int32.ofNat i))] [(.int (Int32.ofNat i)), (.ref va)])) rfl rfl (hb hby d8_21) _ ?_
    show Go p e below T22 (mkF m 22 #[.val (.ref a1), .val (.long q2), .second, .val (.int (15 : Int32)), .val (.int (Int32.ofNat i))] [(.ref a')]) _
    refine XS.ifnullNo X22.here hx rfl (hb hby d8_22) rfl ?_
    show Go p e below T22 (mkF m 25 #[.val (.ref a1), .val (.long q2), .second, .val (.int (15 : Int32)), .val (.int (Int32.ofNat i))] []) _
    refine XS.aloadN X22.here hx rfl (hb hby d8_25) rfl rfl ?_
    exact kt)
  obtain ⟨T27, X27, e27, st27⟩ := getF X22 hx hZ hown (host := "") (Or.inl (own_w hw 36 rfl)) Via.refl e22 Fk (g := (mkF m 26 #[.val (.ref a1), .val (.long q2), .second, .val (.int (15 : Int32)), .val (.int (Int32.ofNat i))] [(.ref a1)])) rfl rfl (hb hby d8_26)
  have q28 := fun t (kt : Go p e below T27 (mkF m 29 #[.val (.ref a1), .val (.long q2), .second, .val (.int (15 : Int32)), .val (.int (Int32.ofNat i))] [(.ref ka)]) t) => q26 t (st27 t kt)
  have q30 := fun t (kt : Go p e below T27 (mkF m 31 #[.val (.ref a1), .val (.long q2), .second, .val (.int (15 : Int32)), .val (.int (Int32.ofNat i))] [(.int (Int32.ofNat i)), (.ref ka)]) t) => q28 t (by
    show Go p e below T27 (mkF m 29 #[.val (.ref a1), .val (.long q2), .second, .val (.int (15 : Int32)), .val (.int (Int32.ofNat i))] [(.ref ka)]) _
    refine XS.iload X27.here hx rfl (hb hby d8_29) rfl ?_
    exact kt)
  obtain ⟨c29, Ar29, -, S29, N29, H29, -⟩ := id Ak
  have q31 := fun t (kt : Go p e below T27 (mkF m 51 #[.val (.ref a1), .val (.long q2), .second, .val (.int (15 : Int32)), .val (.int (Int32.ofNat i))] [(.int (((Int32.ofNat i) + (1 : Int32)) &&& (15 : Int32)))]) t) => q30 t (by
    show Go p e below T27 (mkF m 31 #[.val (.ref a1), .val (.long q2), .second, .val (.int (15 : Int32)), .val (.int (Int32.ofNat i))] [(.int (Int32.ofNat i)), (.ref ka)]) _
    refine X27.laload hx (j := (Int32.ofNat i)) (v := (.long (K i))) (by rw [e27]; exact Ar29.1) (State.isArrayOf_alike hZ.alike Ar29.2.1) Ar29.2.2 (inb_of S29 ⟨(own_ofn hi).2.1, (own_ofn hi).2.2.1⟩) (Has.at H29 (inb_of S29 ⟨(own_ofn hi).2.1, (own_ofn hi).2.2.1⟩) (own_atK K hi)) (g := (mkF m 31 #[.val (.ref a1), .val (.long q2), .second, .val (.int (15 : Int32)), .val (.int (Int32.ofNat i))] [(.int (Int32.ofNat i)), (.ref ka)])) rfl rfl (hb hby d8_31) _ ?_
    show Go p e below T27 (mkF m 32 #[.val (.ref a1), .val (.long q2), .second, .val (.int (15 : Int32)), .val (.int (Int32.ofNat i))] [(.long (K i))]) _
    refine XS.lloadN X27.here hx rfl (hb hby d8_32) rfl ?_
    show Go p e below T27 (mkF m 33 #[.val (.ref a1), .val (.long q2), .second, .val (.int (15 : Int32)), .val (.int (Int32.ofNat i))] [(.long q2), (.long (K i))]) _
    refine XS.lcmp X27.here hx rfl (hb hby d8_33) rfl ?_
    show Go p e below T27 (mkF m 34 #[.val (.ref a1), .val (.long q2), .second, .val (.int (15 : Int32)), .val (.int (Int32.ofNat i))] [(.int (lcmpW (K i) q2))]) _
    refine XS.ifYes X27.here hx rfl (pc0 := 34) (pc' := 45) rfl (hb hby d8_34) rfl ((if0 _ _).trans (feq (fun z => hk ((lw_eq _ _).mp z))).2) (by decide) (by decide) ?_
    show Go p e below T27 (mkF m 45 #[.val (.ref a1), .val (.long q2), .second, .val (.int (15 : Int32)), .val (.int (Int32.ofNat i))] []) _
    refine XS.iload X27.here hx rfl (hb hby d8_45) rfl ?_
    show Go p e below T27 (mkF m 47 #[.val (.ref a1), .val (.long q2), .second, .val (.int (15 : Int32)), .val (.int (Int32.ofNat i))] [(.int (Int32.ofNat i))]) _
    refine XS.iconst X27.here hx rfl (hb hby d8_47) ?_
    show Go p e below T27 (mkF m 48 #[.val (.ref a1), .val (.long q2), .second, .val (.int (15 : Int32)), .val (.int (Int32.ofNat i))] [(.int (1 : Int32)), (.int (Int32.ofNat i))]) _
    refine XS.iadd X27.here hx rfl (hb hby d8_48) rfl ?_
    show Go p e below T27 (mkF m 49 #[.val (.ref a1), .val (.long q2), .second, .val (.int (15 : Int32)), .val (.int (Int32.ofNat i))] [(.int ((Int32.ofNat i) + (1 : Int32)))]) _
    refine XS.iloadN X27.here hx rfl (hb hby d8_49) rfl ?_
    show Go p e below T27 (mkF m 50 #[.val (.ref a1), .val (.long q2), .second, .val (.int (15 : Int32)), .val (.int (Int32.ofNat i))] [(.int (15 : Int32)), (.int ((Int32.ofNat i) + (1 : Int32)))]) _
    refine XS.iand X27.here hx rfl (hb hby d8_50) rfl ?_
    exact kt)
  have q32 := fun t (kt : Go p e below T27 (mkF m 51 #[.val (.ref a1), .val (.long q2), .second, .val (.int (15 : Int32)), .val (.int (Int32.ofNat i))] [(.int (Int32.ofNat ((i + 1) % 16)))]) t) => q31 t (by rw [(own_ofn hi).2.2.2]; exact kt)
  have q33 := fun t (kt : Go p e below T27 (mkF m 15 #[.val (.ref a1), .val (.long q2), .second, .val (.int (15 : Int32)), .val (.int (Int32.ofNat ((i + 1) % 16)))] []) t) => q32 t (by
    show Go p e below T27 (mkF m 51 #[.val (.ref a1), .val (.long q2), .second, .val (.int (15 : Int32)), .val (.int (Int32.ofNat i))] [(.int (Int32.ofNat ((i + 1) % 16)))]) _
    refine XS.istore X27.here hx rfl (hb hby d8_51) rfl (l' := #[.val (.ref a1), .val (.long q2), .second, .val (.int (15 : Int32)), .val (.int (Int32.ofNat ((i + 1) % 16)))]) rfl ?_
    show Go p e below T27 (mkF m 53 #[.val (.ref a1), .val (.long q2), .second, .val (.int (15 : Int32)), .val (.int (Int32.ofNat ((i + 1) % 16)))] []) _
    refine XS.goto X27.here hx rfl (pc0 := 53) (pc' := 15) rfl (hb hby d8_53) (by decide) (by decide) ?_
    exact kt)
  exact ⟨T27, X27, e27, q33⟩
theorem d8_37 : decode prog_17_method_2_code 37 = .ok (.aload_n 0, 1) := by decide +kernel
theorem d8_38 : decode prog_17_method_2_code 38 = .ok (.getfield 13, 3) := by decide +kernel
theorem d8_41 : decode prog_17_method_2_code 41 = .ok (.iload 4, 2) := by decide +kernel
theorem d8_43 : decode prog_17_method_2_code 43 = .ok (.aaload, 1) := by decide +kernel
theorem tn8_hit {p : Program} {l : Launch} {e : Env} {R : Room} {s : State} {m : MethodId} {args : Array Value} {below : List Frame} {meth : Method} {c : Code} {T0 : State} {locs : List Loc} {cells slots : Nat} {Z : State} {a0 : Array Value} {h0 : Heap} (a1 : Addr) (ka : Addr) (va : Addr) (q2 : Int64) (i : Nat) (K : Nat → Int64) (V : Nat → Option Addr) (kk : ClassId) (kv : ClassId) (a' : Addr)
    (X0 : Stand p l e R s m args below meth c T0 locs cells slots) (hx : p.tables.exec = Jvm.exec) (hZ : Z.Warmed39 s.vm) (hw : ∀ d ∈ tables_1, d.before a0 Z = true) (hby : c.code = prog_17_method_2_code) (hml : c.maxLocals = 5) (hown : s.vm.findClass "com/example/pointward/pointward/pointsto/LongTable" = some m.cls) (e0 : T0.heap = h0) (Fk : Fld Z h0 a1 "com/example/pointward/pointward/pointsto/LongTable" "keys" "[J" (.ref ka)) (Fv : Fld Z h0 a1 "com/example/pointward/pointward/pointsto/LongTable" "values" "[Ljava/lang/Object;" (.ref va)) (Ak : Arv Z h0 ka kk .long (16 : Int32) (own_kl K) (.long (0 : Int64))) (Av : Arv Z h0 va kv (.object "java/lang/Object") (16 : Int32) (own_vl V) .null) (hi : i < 16) (hv : V i = some a') (hk : K i = q2) :
    ∃ T' : State, Stand p l e R s m args below meth c T' locs cells slots ∧ T'.heap = h0 ∧ ∀ t, Steps p.tables e below (T'.setTop (mkF m 44 #[.val (.ref a1), .val (.long q2), .second, .val (.int (15 : Int32)), .val (.int (Int32.ofNat i))] [(.ref a')])) t → Go p e below T0 (mkF m 15 #[.val (.ref a1), .val (.long q2), .second, .val (.int (15 : Int32)), .val (.int (Int32.ofNat i))] []) t := by
  have pre0 : ∀ t, Go p e below T0 (mkF m 15 #[.val (.ref a1), .val (.long q2), .second, .val (.int (15 : Int32)), .val (.int (Int32.ofNat i))] []) t → Go p e below T0 (mkF m 15 #[.val (.ref a1), .val (.long q2), .second, .val (.int (15 : Int32)), .val (.int (Int32.ofNat i))] []) t := fun _ k => k
  have q21 := fun t (kt : Go p e below T0 (mkF m 16 #[.val (.ref a1), .val (.long q2), .second, .val (.int (15 : Int32)), .val (.int (Int32.ofNat i))] [(.ref a1)]) t) => pre0 t (by
    show Go p e below T0 (mkF m 15 #[.val (.ref a1), .val (.long q2), .second, .val (.int (15 : Int32)), .val (.int (Int32.ofNat i))] []) _
    refine XS.aloadN X0.here hx rfl (hb hby d8_15) rfl rfl ?_
    exact kt)
  obtain ⟨T22, X22, e22, st22⟩ := getF X0 hx hZ hown (host := "") (Or.inl (own_w hw 39 rfl)) Via.refl e0 Fv (g := (mkF m 16 #[.val (.ref a1), .val (.long q2), .second, .val (.int (15 : Int32)), .val (.int (Int32.ofNat i))] [(.ref a1)])) rfl rfl (hb hby d8_16)
  have q23 := fun t (kt : Go p e below T22 (mkF m 19 #[.val (.ref a1), .val (.long q2), .second, .val (.int (15 : Int32)), .val (.int (Int32.ofNat i))] [(.ref va)]) t) => q21 t (st22 t kt)
  have q25 := fun t (kt : Go p e below T22 (mkF m 21 #[.val (.ref a1), .val (.long q2), .second, .val (.int (15 : Int32)), .val (.int (Int32.ofNat i))] [(.int (Int32.ofNat i)), (.ref va)]) t) => q23 t (by
    show Go p e below T22 (mkF m 19 #[.val (.ref a1), .val (.long q2), .second, .val (.int (15 : Int32)), .val (.int (Int32.ofNat i))] [(.ref va)]) _
    refine XS.iload X22.here hx rfl (hb hby d8_19) rfl ?_
    exact kt)
  obtain ⟨c24, Ar24, -, S24, N24, H24, -⟩ := id Av
  have q26 := fun t (kt : Go p e below T22 (mkF m 26 #[.val (.ref a1), .val (.long q2), .second, .val (.int (15 : Int32)), .val (.int (Int32.ofNat i))] [(.ref a1)]) t) => q25 t (by
    show Go p e below T22 (mkF m 21 #[.val (.ref a1), .val (.long q2), .second, .val (.int (15 : Int32)), .val (.int (Int32.ofNat i))] [(.int (Int32.ofNat i)), (.ref va)]) _
    refine X22.aaload hx (j := (Int32.ofNat i)) (v := (.ref a')) (by rw [e22]; exact Ar24.1) (State.isArrayOf_alike hZ.alike Ar24.2.1) rfl Ar24.2.2 (inb_of S24 ⟨(own_ofn hi).2.1, (own_ofn hi).2.2.1⟩) (Has.at H24 (inb_of S24 ⟨(own_ofn hi).2.1, (own_ofn hi).2.2.1⟩) ((own_atV V hi).trans (by rw [hv]; rfl))) (g := (mkF m 21 #[.val (.ref a1), .val (.long q2), .second, .val (.int (15 : Int32)), .val (.int (Int32.ofNat i))] [(.int (Int32.ofNat i)), (.ref va)])) rfl rfl (hb hby d8_21) _ ?_
    show Go p e below T22 (mkF m 22 #[.val (.ref a1), .val (.long q2), .second, .val (.int (15 : Int32)), .val (.int (Int32.ofNat i))] [(.ref a')]) _
    refine XS.ifnullNo X22.here hx rfl (hb hby d8_22) rfl ?_
    show Go p e below T22 (mkF m 25 #[.val (.ref a1), .val (.long q2), .second, .val (.int (15 : Int32)), .val (.int (Int32.ofNat i))] []) _
    refine XS.aloadN X22.here hx rfl (hb hby d8_25) rfl rfl ?_
    exact kt)
  obtain ⟨T27, X27, e27, st27⟩ := getF X22 hx hZ hown (host := "") (Or.inl (own_w hw 36 rfl)) Via.refl e22 Fk (g := (mkF m 26 #[.val (.ref a1), .val (.long q2), .second, .val (.int (15 : Int32)), .val (.int (Int32.ofNat i))] [(.ref a1)])) rfl rfl (hb hby d8_26)
  have q28 := fun t (kt : Go p e below T27 (mkF m 29 #[.val (.ref a1), .val (.long q2), .second, .val (.int (15 : Int32)), .val (.int (Int32.ofNat i))] [(.ref ka)]) t) => q26 t (st27 t kt)
  have q30 := fun t (kt : Go p e below T27 (mkF m 31 #[.val (.ref a1), .val (.long q2), .second, .val (.int (15 : Int32)), .val (.int (Int32.ofNat i))] [(.int (Int32.ofNat i)), (.ref ka)]) t) => q28 t (by
    show Go p e below T27 (mkF m 29 #[.val (.ref a1), .val (.long q2), .second, .val (.int (15 : Int32)), .val (.int (Int32.ofNat i))] [(.ref ka)]) _
    refine XS.iload X27.here hx rfl (hb hby d8_29) rfl ?_
    exact kt)
  obtain ⟨c29, Ar29, -, S29, N29, H29, -⟩ := id Ak
  have q31 := fun t (kt : Go p e below T27 (mkF m 38 #[.val (.ref a1), .val (.long q2), .second, .val (.int (15 : Int32)), .val (.int (Int32.ofNat i))] [(.ref a1)]) t) => q30 t (by
    show Go p e below T27 (mkF m 31 #[.val (.ref a1), .val (.long q2), .second, .val (.int (15 : Int32)), .val (.int (Int32.ofNat i))] [(.int (Int32.ofNat i)), (.ref ka)]) _
    refine X27.laload hx (j := (Int32.ofNat i)) (v := (.long (K i))) (by rw [e27]; exact Ar29.1) (State.isArrayOf_alike hZ.alike Ar29.2.1) Ar29.2.2 (inb_of S29 ⟨(own_ofn hi).2.1, (own_ofn hi).2.2.1⟩) (Has.at H29 (inb_of S29 ⟨(own_ofn hi).2.1, (own_ofn hi).2.2.1⟩) (own_atK K hi)) (g := (mkF m 31 #[.val (.ref a1), .val (.long q2), .second, .val (.int (15 : Int32)), .val (.int (Int32.ofNat i))] [(.int (Int32.ofNat i)), (.ref ka)])) rfl rfl (hb hby d8_31) _ ?_
    show Go p e below T27 (mkF m 32 #[.val (.ref a1), .val (.long q2), .second, .val (.int (15 : Int32)), .val (.int (Int32.ofNat i))] [(.long (K i))]) _
    refine XS.lloadN X27.here hx rfl (hb hby d8_32) rfl ?_
    show Go p e below T27 (mkF m 33 #[.val (.ref a1), .val (.long q2), .second, .val (.int (15 : Int32)), .val (.int (Int32.ofNat i))] [(.long q2), (.long (K i))]) _
    refine XS.lcmp X27.here hx rfl (hb hby d8_33) rfl ?_
    show Go p e below T27 (mkF m 34 #[.val (.ref a1), .val (.long q2), .second, .val (.int (15 : Int32)), .val (.int (Int32.ofNat i))] [(.int (lcmpW (K i) q2))]) _
    refine XS.ifNo X27.here hx rfl (hb hby d8_34) rfl ((if0 _ _).trans (teq ((lw_eq _ _).mpr hk)).2) ?_
    show Go p e below T27 (mkF m 37 #[.val (.ref a1), .val (.long q2), .second, .val (.int (15 : Int32)), .val (.int (Int32.ofNat i))] []) _
    refine XS.aloadN X27.here hx rfl (hb hby d8_37) rfl rfl ?_
    exact kt)
  obtain ⟨T32, X32, e32, st32⟩ := getF X27 hx hZ hown (host := "") (Or.inl (own_w hw 39 rfl)) Via.refl e27 Fv (g := (mkF m 38 #[.val (.ref a1), .val (.long q2), .second, .val (.int (15 : Int32)), .val (.int (Int32.ofNat i))] [(.ref a1)])) rfl rfl (hb hby d8_38)
  have q33 := fun t (kt : Go p e below T32 (mkF m 41 #[.val (.ref a1), .val (.long q2), .second, .val (.int (15 : Int32)), .val (.int (Int32.ofNat i))] [(.ref va)]) t) => q31 t (st32 t kt)
  have q35 := fun t (kt : Go p e below T32 (mkF m 43 #[.val (.ref a1), .val (.long q2), .second, .val (.int (15 : Int32)), .val (.int (Int32.ofNat i))] [(.int (Int32.ofNat i)), (.ref va)]) t) => q33 t (by
    show Go p e below T32 (mkF m 41 #[.val (.ref a1), .val (.long q2), .second, .val (.int (15 : Int32)), .val (.int (Int32.ofNat i))] [(.ref va)]) _
    refine XS.iload X32.here hx rfl (hb hby d8_41) rfl ?_
    exact kt)
  obtain ⟨c34, Ar34, -, S34, N34, H34, -⟩ := id Av
  have q36 := fun t (kt : Go p e below T32 (mkF m 44 #[.val (.ref a1), .val (.long q2), .second, .val (.int (15 : Int32)), .val (.int (Int32.ofNat i))] [(.ref a')]) t) => q35 t (by
    show Go p e below T32 (mkF m 43 #[.val (.ref a1), .val (.long q2), .second, .val (.int (15 : Int32)), .val (.int (Int32.ofNat i))] [(.int (Int32.ofNat i)), (.ref va)]) _
    refine X32.aaload hx (j := (Int32.ofNat i)) (v := (.ref a')) (by rw [e32]; exact Ar34.1) (State.isArrayOf_alike hZ.alike Ar34.2.1) rfl Ar34.2.2 (inb_of S34 ⟨(own_ofn hi).2.1, (own_ofn hi).2.2.1⟩) (Has.at H34 (inb_of S34 ⟨(own_ofn hi).2.1, (own_ofn hi).2.2.1⟩) ((own_atV V hi).trans (by rw [hv]; rfl))) (g := (mkF m 43 #[.val (.ref a1), .val (.long q2), .second, .val (.int (15 : Int32)), .val (.int (Int32.ofNat i))] [(.int (Int32.ofNat i)), (.ref va)])) rfl rfl (hb hby d8_43) _ ?_
    exact kt)
  exact ⟨T32, X32, e32, q36⟩
theorem tn8_miss {p : Program} {l : Launch} {e : Env} {R : Room} {s : State} {m : MethodId} {args : Array Value} {below : List Frame} {meth : Method} {c : Code} {T0 : State} {locs : List Loc} {cells slots : Nat} {Z : State} {a0 : Array Value} {h0 : Heap} (a1 : Addr) (ka : Addr) (va : Addr) (q2 : Int64) (i : Nat) (K : Nat → Int64) (V : Nat → Option Addr) (kk : ClassId) (kv : ClassId)
    (X0 : Stand p l e R s m args below meth c T0 locs cells slots) (hx : p.tables.exec = Jvm.exec) (hZ : Z.Warmed39 s.vm) (hw : ∀ d ∈ tables_1, d.before a0 Z = true) (hby : c.code = prog_17_method_2_code) (hml : c.maxLocals = 5) (hown : s.vm.findClass "com/example/pointward/pointward/pointsto/LongTable" = some m.cls) (e0 : T0.heap = h0) (Fk : Fld Z h0 a1 "com/example/pointward/pointward/pointsto/LongTable" "keys" "[J" (.ref ka)) (Fv : Fld Z h0 a1 "com/example/pointward/pointward/pointsto/LongTable" "values" "[Ljava/lang/Object;" (.ref va)) (Ak : Arv Z h0 ka kk .long (16 : Int32) (own_kl K) (.long (0 : Int64))) (Av : Arv Z h0 va kv (.object "java/lang/Object") (16 : Int32) (own_vl V) .null) (hi : i < 16) (hv : V i = none) :
    ∃ T' : State, Stand p l e R s m args below meth c T' locs cells slots ∧ T'.heap = h0 ∧ ∀ t, Steps p.tables e below (T'.setTop (mkF m 56 #[.val (.ref a1), .val (.long q2), .second, .val (.int (15 : Int32)), .val (.int (Int32.ofNat i))] [])) t → Go p e below T0 (mkF m 15 #[.val (.ref a1), .val (.long q2), .second, .val (.int (15 : Int32)), .val (.int (Int32.ofNat i))] []) t := by
  have pre0 : ∀ t, Go p e below T0 (mkF m 15 #[.val (.ref a1), .val (.long q2), .second, .val (.int (15 : Int32)), .val (.int (Int32.ofNat i))] []) t → Go p e below T0 (mkF m 15 #[.val (.ref a1), .val (.long q2), .second, .val (.int (15 : Int32)), .val (.int (Int32.ofNat i))] []) t := fun _ k => k
  have q21 := fun t (kt : Go p e below T0 (mkF m 16 #[.val (.ref a1), .val (.long q2), .second, .val (.int (15 : Int32)), .val (.int (Int32.ofNat i))] [(.ref a1)]) t) => pre0 t (by
    show Go p e below T0 (mkF m 15 #[.val (.ref a1), .val (.long q2), .second, .val (.int (15 : Int32)), .val (.int (Int32.ofNat i))] []) _
    refine XS.aloadN X0.here hx rfl (hb hby d8_15) rfl rfl ?_
    exact kt)
  obtain ⟨T22, X22, e22, st22⟩ := getF X0 hx hZ hown (host := "") (Or.inl (own_w hw 39 rfl)) Via.refl e0 Fv (g := (mkF m 16 #[.val (.ref a1), .val (.long q2), .second, .val (.int (15 : Int32)), .val (.int (Int32.ofNat i))] [(.ref a1)])) rfl rfl (hb hby d8_16)
  have q23 := fun t (kt : Go p e below T22 (mkF m 19 #[.val (.ref a1), .val (.long q2), .second, .val (.int (15 : Int32)), .val (.int (Int32.ofNat i))] [(.ref va)]) t) => q21 t (st22 t kt)
  have q25 := fun t (kt : Go p e below T22 (mkF m 21 #[.val (.ref a1), .val (.long q2), .second, .val (.int (15 : Int32)), .val (.int (Int32.ofNat i))] [(.int (Int32.ofNat i)), (.ref va)]) t) => q23 t (by
    show Go p e below T22 (mkF m 19 #[.val (.ref a1), .val (.long q2), .second, .val (.int (15 : Int32)), .val (.int (Int32.ofNat i))] [(.ref va)]) _
    refine XS.iload X22.here hx rfl (hb hby d8_19) rfl ?_
    exact kt)
  obtain ⟨c24, Ar24, -, S24, N24, H24, -⟩ := id Av
  have q26 := fun t (kt : Go p e below T22 (mkF m 56 #[.val (.ref a1), .val (.long q2), .second, .val (.int (15 : Int32)), .val (.int (Int32.ofNat i))] []) t) => q25 t (by
    show Go p e below T22 (mkF m 21 #[.val (.ref a1), .val (.long q2), .second, .val (.int (15 : Int32)), .val (.int (Int32.ofNat i))] [(.int (Int32.ofNat i)), (.ref va)]) _
    refine X22.aaload hx (j := (Int32.ofNat i)) (v := .null) (by rw [e22]; exact Ar24.1) (State.isArrayOf_alike hZ.alike Ar24.2.1) rfl Ar24.2.2 (inb_of S24 ⟨(own_ofn hi).2.1, (own_ofn hi).2.2.1⟩) (Has.at H24 (inb_of S24 ⟨(own_ofn hi).2.1, (own_ofn hi).2.2.1⟩) ((own_atV V hi).trans (by rw [hv]; rfl))) (g := (mkF m 21 #[.val (.ref a1), .val (.long q2), .second, .val (.int (15 : Int32)), .val (.int (Int32.ofNat i))] [(.int (Int32.ofNat i)), (.ref va)])) rfl rfl (hb hby d8_21) _ ?_
    show Go p e below T22 (mkF m 22 #[.val (.ref a1), .val (.long q2), .second, .val (.int (15 : Int32)), .val (.int (Int32.ofNat i))] [.null]) _
    refine XS.ifnullYes X22.here hx rfl (pc0 := 22) (pc' := 56) rfl (hb hby d8_22) rfl (by decide) (by decide) ?_
    exact kt)
  exact ⟨T22, X22, e22, q26⟩
theorem d17_17 : decode prog_17_method_3_code 17 = .ok (.aload_n 0, 1) := by decide +kernel
theorem d17_18 : decode prog_17_method_3_code 18 = .ok (.getfield 13, 3) := by decide +kernel
theorem d17_21 : decode prog_17_method_3_code 21 = .ok (.iload 5, 2) := by decide +kernel
theorem d17_23 : decode prog_17_method_3_code 23 = .ok (.aaload, 1) := by decide +kernel
theorem d17_24 : decode prog_17_method_3_code 24 = .ok (.ifnull 27, 3) := by decide +kernel
theorem d17_27 : decode prog_17_method_3_code 27 = .ok (.aload_n 0, 1) := by decide +kernel
theorem d17_28 : decode prog_17_method_3_code 28 = .ok (.getfield 7, 3) := by decide +kernel
theorem d17_31 : decode prog_17_method_3_code 31 = .ok (.iload 5, 2) := by decide +kernel
theorem d17_33 : decode prog_17_method_3_code 33 = .ok (.laload, 1) := by decide +kernel
theorem d17_34 : decode prog_17_method_3_code 34 = .ok (.lload_n 1, 1) := by decide +kernel
theorem d17_35 : decode prog_17_method_3_code 35 = .ok (.lcmp, 1) := by decide +kernel
theorem d17_36 : decode prog_17_method_3_code 36 = .ok (.ifCond .eq 15, 3) := by decide +kernel
theorem d17_39 : decode prog_17_method_3_code 39 = .ok (.iload 5, 2) := by decide +kernel
theorem d17_41 : decode prog_17_method_3_code 41 = .ok (.iconst 1, 1) := by decide +kernel
theorem d17_42 : decode prog_17_method_3_code 42 = .ok (.iadd, 1) := by decide +kernel
theorem d17_43 : decode prog_17_method_3_code 43 = .ok (.iload 4, 2) := by decide +kernel
theorem d17_45 : decode prog_17_method_3_code 45 = .ok (.iand, 1) := by decide +kernel
theorem d17_46 : decode prog_17_method_3_code 46 = .ok (.istore 5, 2) := by decide +kernel
theorem d17_48 : decode prog_17_method_3_code 48 = .ok (.goto (-31), 3) := by decide +kernel
theorem tn17_turn {p : Program} {l : Launch} {e : Env} {R : Room} {s : State} {m : MethodId} {args : Array Value} {below : List Frame} {meth : Method} {c : Code} {T0 : State} {locs : List Loc} {cells slots : Nat} {Z : State} {a0 : Array Value} {h0 : Heap} (a1 : Addr) (ka : Addr) (va : Addr) (q2 : Int64) (i : Nat) (K : Nat → Int64) (V : Nat → Option Addr) (kk : ClassId) (kv : ClassId) (a3 : Addr) (a' : Addr)
    (X0 : Stand p l e R s m args below meth c T0 locs cells slots) (hx : p.tables.exec = Jvm.exec) (hZ : Z.Warmed39 s.vm) (hw : ∀ d ∈ tables_1, d.before a0 Z = true) (hby : c.code = prog_17_method_3_code) (hml : c.maxLocals = 6) (hown : s.vm.findClass "com/example/pointward/pointward/pointsto/LongTable" = some m.cls) (e0 : T0.heap = h0) (Fk : Fld Z h0 a1 "com/example/pointward/pointward/pointsto/LongTable" "keys" "[J" (.ref ka)) (Fv : Fld Z h0 a1 "com/example/pointward/pointward/pointsto/LongTable" "values" "[Ljava/lang/Object;" (.ref va)) (Ak : Arv Z h0 ka kk .long (16 : Int32) (own_kl K) (.long (0 : Int64))) (Av : Arv Z h0 va kv (.object "java/lang/Object") (16 : Int32) (own_vl V) .null) (hi : i < 16) (hv : V i = some a') (hk : ¬ (K i = q2)) :
    ∃ T' : State, Stand p l e R s m args below meth c T' locs cells slots ∧ T'.heap = h0 ∧ ∀ t, Steps p.tables e below (T'.setTop (mkF m 17 #[.val (.ref a1), .val (.long q2), .second, .val (.ref a3), .val (.int (15 : Int32)), .val (.int (Int32.ofNat ((i + 1) % 16)))] [])) t → Go p e below T0 (mkF m 17 #[.val (.ref a1), .val (.long q2), .second, .val (.ref a3), .val (.int (15 : Int32)), .val (.int (Int32.ofNat i))] []) t := by
  have pre0 : ∀ t, Go p e below T0 (mkF m 17 #[.val (.ref a1), .val (.long q2), .second, .val (.ref a3), .val (.int (15 : Int32)), .val (.int (Int32.ofNat i))] []) t → Go p e below T0 (mkF m 17 #[.val (.ref a1), .val (.long q2), .second, .val (.ref a3), .val (.int (15 : Int32)), .val (.int (Int32.ofNat i))] []) t := fun _ k => k
  have q21 := fun t (kt : Go p e below T0 (mkF m 18 #[.val (.ref a1), .val (.long q2), .second, .val (.ref a3), .val (.int (15 : Int32)), .val (.int (Int32.ofNat i))] [(.ref a1)]) t) => pre0 t (by
    show Go p e below T0 (mkF m 17 #[.val (.ref a1), .val (.long q2), .second, .val (.ref a3), .val (.int (15 : Int32)), .val (.int (Int32.ofNat i))] []) _
    refine XS.aloadN X0.here hx rfl (hb hby d17_17) rfl rfl ?_
    exact kt)
  obtain ⟨T22, X22, e22, st22⟩ := getF X0 hx hZ hown (host := "") (Or.inl (own_w hw 39 rfl)) Via.refl e0 Fv (g := (mkF m 18 #[.val (.ref a1), .val (.long q2), .second, .val (.ref a3), .val (.int (15 : Int32)), .val (.int (Int32.ofNat i))] [(.ref a1)])) rfl rfl (hb hby d17_18)
  have q23 := fun t (kt : Go p e below T22 (mkF m 21 #[.val (.ref a1), .val (.long q2), .second, .val (.ref a3), .val (.int (15 : Int32)), .val (.int (Int32.ofNat i))] [(.ref va)]) t) => q21 t (st22 t kt)
  have q25 := fun t (kt : Go p e below T22 (mkF m 23 #[.val (.ref a1), .val (.long q2), .second, .val (.ref a3), .val (.int (15 : Int32)), .val (.int (Int32.ofNat i))] [(.int (Int32.ofNat i)), (.ref va)]) t) => q23 t (by
    show Go p e below T22 (mkF m 21 #[.val (.ref a1), .val (.long q2), .second, .val (.ref a3), .val (.int (15 : Int32)), .val (.int (Int32.ofNat i))] [(.ref va)]) _
    refine XS.iload X22.here hx rfl (hb hby d17_21) rfl ?_
    exact kt)
  obtain ⟨c24, Ar24, -, S24, N24, H24, -⟩ := id Av
  have q26 := fun t (kt : Go p e below T22 (mkF m 28 #[.val (.ref a1), .val (.long q2), .second, .val (.ref a3), .val (.int (15 : Int32)), .val (.int (Int32.ofNat i))] [(.ref a1)]) t) => q25 t (by
    show Go p e below T22 (mkF m 23 #[.val (.ref a1), .val (.long q2), .second, .val (.ref a3), .val (.int (15 : Int32)), .val (.int (Int32.ofNat i))] [(.int (Int32.ofNat i)), (.ref va)]) _
    refine X22.aaload hx (j := (Int32.ofNat i)) (v := (.ref a')) (by rw [e22]; exact Ar24.1) (State.isArrayOf_alike hZ.alike Ar24.2.1) rfl Ar24.2.2 (inb_of S24 ⟨(own_ofn hi).2.1, (own_ofn hi).2.2.1⟩) (Has.at H24 (inb_of S24 ⟨(own_ofn hi).2.1, (own_ofn hi).2.2.1⟩) ((own_atV V hi).trans (by rw [hv]; rfl))) (g := (mkF m 23 #[.val (.ref a1), .val (.long q2), .second, .val (.ref a3), .val (.int (15 : Int32)), .val (.int (Int32.ofNat i))] [(.int (Int32.ofNat i)), (.ref va)])) rfl rfl (hb hby d17_23) _ ?_
    show Go p e below T22 (mkF m 24 #[.val (.ref a1), .val (.long q2), .second, .val (.ref a3), .val (.int (15 : Int32)), .val (.int (Int32.ofNat i))] [(.ref a')]) _
    refine XS.ifnullNo X22.here hx rfl (hb hby d17_24) rfl ?_
    show Go p e below T22 (mkF m 27 #[.val (.ref a1), .val (.long q2), .second, .val (.ref a3), .val (.int (15 : Int32)), .val (.int (Int32.ofNat i))] []) _
    refine XS.aloadN X22.here hx rfl (hb hby d17_27) rfl rfl ?_
    exact kt)
  obtain ⟨T27, X27, e27, st27⟩ := getF X22 hx hZ hown (host := "") (Or.inl (own_w hw 36 rfl)) Via.refl e22 Fk (g := (mkF m 28 #[.val (.ref a1), .val (.long q2), .second, .val (.ref a3), .val (.int (15 : Int32)), .val (.int (Int32.ofNat i))] [(.ref a1)])) rfl rfl (hb hby d17_28)
  have q28 := fun t (kt : Go p e below T27 (mkF m 31 #[.val (.ref a1), .val (.long q2), .second, .val (.ref a3), .val (.int (15 : Int32)), .val (.int (Int32.ofNat i))] [(.ref ka)]) t) => q26 t (st27 t kt)
  have q30 := fun t (kt : Go p e below T27 (mkF m 33 #[.val (.ref a1), .val (.long q2), .second, .val (.ref a3), .val (.int (15 : Int32)), .val (.int (Int32.ofNat i))] [(.int (Int32.ofNat i)), (.ref ka)]) t) => q28 t (by
    show Go p e below T27 (mkF m 31 #[.val (.ref a1), .val (.long q2), .second, .val (.ref a3), .val (.int (15 : Int32)), .val (.int (Int32.ofNat i))] [(.ref ka)]) _
    refine XS.iload X27.here hx rfl (hb hby d17_31) rfl ?_
    exact kt)
  obtain ⟨c29, Ar29, -, S29, N29, H29, -⟩ := id Ak
  have q31 := fun t (kt : Go p e below T27 (mkF m 46 #[.val (.ref a1), .val (.long q2), .second, .val (.ref a3), .val (.int (15 : Int32)), .val (.int (Int32.ofNat i))] [(.int (((Int32.ofNat i) + (1 : Int32)) &&& (15 : Int32)))]) t) => q30 t (by
    show Go p e below T27 (mkF m 33 #[.val (.ref a1), .val (.long q2), .second, .val (.ref a3), .val (.int (15 : Int32)), .val (.int (Int32.ofNat i))] [(.int (Int32.ofNat i)), (.ref ka)]) _
    refine X27.laload hx (j := (Int32.ofNat i)) (v := (.long (K i))) (by rw [e27]; exact Ar29.1) (State.isArrayOf_alike hZ.alike Ar29.2.1) Ar29.2.2 (inb_of S29 ⟨(own_ofn hi).2.1, (own_ofn hi).2.2.1⟩) (Has.at H29 (inb_of S29 ⟨(own_ofn hi).2.1, (own_ofn hi).2.2.1⟩) (own_atK K hi)) (g := (mkF m 33 #[.val (.ref a1), .val (.long q2), .second, .val (.ref a3), .val (.int (15 : Int32)), .val (.int (Int32.ofNat i))] [(.int (Int32.ofNat i)), (.ref ka)])) rfl rfl (hb hby d17_33) _ ?_
    show Go p e below T27 (mkF m 34 #[.val (.ref a1), .val (.long q2), .second, .val (.ref a3), .val (.int (15 : Int32)), .val (.int (Int32.ofNat i))] [(.long (K i))]) _
    refine XS.lloadN X27.here hx rfl (hb hby d17_34) rfl ?_
    show Go p e below T27 (mkF m 35 #[.val (.ref a1), .val (.long q2), .second, .val (.ref a3), .val (.int (15 : Int32)), .val (.int (Int32.ofNat i))] [(.long q2), (.long (K i))]) _
    refine XS.lcmp X27.here hx rfl (hb hby d17_35) rfl ?_
    show Go p e below T27 (mkF m 36 #[.val (.ref a1), .val (.long q2), .second, .val (.ref a3), .val (.int (15 : Int32)), .val (.int (Int32.ofNat i))] [(.int (lcmpW (K i) q2))]) _
    refine XS.ifNo X27.here hx rfl (hb hby d17_36) rfl ((if0 _ _).trans (feq (fun z => hk ((lw_eq _ _).mp z))).1) ?_
    show Go p e below T27 (mkF m 39 #[.val (.ref a1), .val (.long q2), .second, .val (.ref a3), .val (.int (15 : Int32)), .val (.int (Int32.ofNat i))] []) _
    refine XS.iload X27.here hx rfl (hb hby d17_39) rfl ?_
    show Go p e below T27 (mkF m 41 #[.val (.ref a1), .val (.long q2), .second, .val (.ref a3), .val (.int (15 : Int32)), .val (.int (Int32.ofNat i))] [(.int (Int32.ofNat i))]) _
    refine XS.iconst X27.here hx rfl (hb hby d17_41) ?_
    show Go p e below T27 (mkF m 42 #[.val (.ref a1), .val (.long q2), .second, .val (.ref a3), .val (.int (15 : Int32)), .val (.int (Int32.ofNat i))] [(.int (1 : Int32)), (.int (Int32.ofNat i))]) _
    refine XS.iadd X27.here hx rfl (hb hby d17_42) rfl ?_
    show Go p e below T27 (mkF m 43 #[.val (.ref a1), .val (.long q2), .second, .val (.ref a3), .val (.int (15 : Int32)), .val (.int (Int32.ofNat i))] [(.int ((Int32.ofNat i) + (1 : Int32)))]) _
    refine XS.iload X27.here hx rfl (hb hby d17_43) rfl ?_
    show Go p e below T27 (mkF m 45 #[.val (.ref a1), .val (.long q2), .second, .val (.ref a3), .val (.int (15 : Int32)), .val (.int (Int32.ofNat i))] [(.int (15 : Int32)), (.int ((Int32.ofNat i) + (1 : Int32)))]) _
    refine XS.iand X27.here hx rfl (hb hby d17_45) rfl ?_
    exact kt)
  have q32 := fun t (kt : Go p e below T27 (mkF m 46 #[.val (.ref a1), .val (.long q2), .second, .val (.ref a3), .val (.int (15 : Int32)), .val (.int (Int32.ofNat i))] [(.int (Int32.ofNat ((i + 1) % 16)))]) t) => q31 t (by rw [(own_ofn hi).2.2.2]; exact kt)
  have q33 := fun t (kt : Go p e below T27 (mkF m 17 #[.val (.ref a1), .val (.long q2), .second, .val (.ref a3), .val (.int (15 : Int32)), .val (.int (Int32.ofNat ((i + 1) % 16)))] []) t) => q32 t (by
    show Go p e below T27 (mkF m 46 #[.val (.ref a1), .val (.long q2), .second, .val (.ref a3), .val (.int (15 : Int32)), .val (.int (Int32.ofNat i))] [(.int (Int32.ofNat ((i + 1) % 16)))]) _
    refine XS.istore X27.here hx rfl (hb hby d17_46) rfl (l' := #[.val (.ref a1), .val (.long q2), .second, .val (.ref a3), .val (.int (15 : Int32)), .val (.int (Int32.ofNat ((i + 1) % 16)))]) rfl ?_
    show Go p e below T27 (mkF m 48 #[.val (.ref a1), .val (.long q2), .second, .val (.ref a3), .val (.int (15 : Int32)), .val (.int (Int32.ofNat ((i + 1) % 16)))] []) _
    refine XS.goto X27.here hx rfl (pc0 := 48) (pc' := 17) rfl (hb hby d17_48) (by decide) (by decide) ?_
    exact kt)
  exact ⟨T27, X27, e27, q33⟩
theorem tn17_stop {p : Program} {l : Launch} {e : Env} {R : Room} {s : State} {m : MethodId} {args : Array Value} {below : List Frame} {meth : Method} {c : Code} {T0 : State} {locs : List Loc} {cells slots : Nat} {Z : State} {a0 : Array Value} {h0 : Heap} (a1 : Addr) (ka : Addr) (va : Addr) (q2 : Int64) (i : Nat) (K : Nat → Int64) (V : Nat → Option Addr) (kk : ClassId) (kv : ClassId) (a3 : Addr)
    (X0 : Stand p l e R s m args below meth c T0 locs cells slots) (hx : p.tables.exec = Jvm.exec) (hZ : Z.Warmed39 s.vm) (hw : ∀ d ∈ tables_1, d.before a0 Z = true) (hby : c.code = prog_17_method_3_code) (hml : c.maxLocals = 6) (hown : s.vm.findClass "com/example/pointward/pointward/pointsto/LongTable" = some m.cls) (e0 : T0.heap = h0) (Fk : Fld Z h0 a1 "com/example/pointward/pointward/pointsto/LongTable" "keys" "[J" (.ref ka)) (Fv : Fld Z h0 a1 "com/example/pointward/pointward/pointsto/LongTable" "values" "[Ljava/lang/Object;" (.ref va)) (Ak : Arv Z h0 ka kk .long (16 : Int32) (own_kl K) (.long (0 : Int64))) (Av : Arv Z h0 va kv (.object "java/lang/Object") (16 : Int32) (own_vl V) .null) (hi : i < 16) (hv : V i = none) :
    ∃ T' : State, Stand p l e R s m args below meth c T' locs cells slots ∧ T'.heap = h0 ∧ ∀ t, Steps p.tables e below (T'.setTop (mkF m 51 #[.val (.ref a1), .val (.long q2), .second, .val (.ref a3), .val (.int (15 : Int32)), .val (.int (Int32.ofNat i))] [])) t → Go p e below T0 (mkF m 17 #[.val (.ref a1), .val (.long q2), .second, .val (.ref a3), .val (.int (15 : Int32)), .val (.int (Int32.ofNat i))] []) t := by
  have pre0 : ∀ t, Go p e below T0 (mkF m 17 #[.val (.ref a1), .val (.long q2), .second, .val (.ref a3), .val (.int (15 : Int32)), .val (.int (Int32.ofNat i))] []) t → Go p e below T0 (mkF m 17 #[.val (.ref a1), .val (.long q2), .second, .val (.ref a3), .val (.int (15 : Int32)), .val (.int (Int32.ofNat i))] []) t := fun _ k => k
  have q21 := fun t (kt : Go p e below T0 (mkF m 18 #[.val (.ref a1), .val (.long q2), .second, .val (.ref a3), .val (.int (15 : Int32)), .val (.int (Int32.ofNat i))] [(.ref a1)]) t) => pre0 t (by
    show Go p e below T0 (mkF m 17 #[.val (.ref a1), .val (.long q2), .second, .val (.ref a3), .val (.int (15 : Int32)), .val (.int (Int32.ofNat i))] []) _
    refine XS.aloadN X0.here hx rfl (hb hby d17_17) rfl rfl ?_
    exact kt)
  obtain ⟨T22, X22, e22, st22⟩ := getF X0 hx hZ hown (host := "") (Or.inl (own_w hw 39 rfl)) Via.refl e0 Fv (g := (mkF m 18 #[.val (.ref a1), .val (.long q2), .second, .val (.ref a3), .val (.int (15 : Int32)), .val (.int (Int32.ofNat i))] [(.ref a1)])) rfl rfl (hb hby d17_18)
  have q23 := fun t (kt : Go p e below T22 (mkF m 21 #[.val (.ref a1), .val (.long q2), .second, .val (.ref a3), .val (.int (15 : Int32)), .val (.int (Int32.ofNat i))] [(.ref va)]) t) => q21 t (st22 t kt)
  have q25 := fun t (kt : Go p e below T22 (mkF m 23 #[.val (.ref a1), .val (.long q2), .second, .val (.ref a3), .val (.int (15 : Int32)), .val (.int (Int32.ofNat i))] [(.int (Int32.ofNat i)), (.ref va)]) t) => q23 t (by
    show Go p e below T22 (mkF m 21 #[.val (.ref a1), .val (.long q2), .second, .val (.ref a3), .val (.int (15 : Int32)), .val (.int (Int32.ofNat i))] [(.ref va)]) _
    refine XS.iload X22.here hx rfl (hb hby d17_21) rfl ?_
    exact kt)
  obtain ⟨c24, Ar24, -, S24, N24, H24, -⟩ := id Av
  have q26 := fun t (kt : Go p e below T22 (mkF m 51 #[.val (.ref a1), .val (.long q2), .second, .val (.ref a3), .val (.int (15 : Int32)), .val (.int (Int32.ofNat i))] []) t) => q25 t (by
    show Go p e below T22 (mkF m 23 #[.val (.ref a1), .val (.long q2), .second, .val (.ref a3), .val (.int (15 : Int32)), .val (.int (Int32.ofNat i))] [(.int (Int32.ofNat i)), (.ref va)]) _
    refine X22.aaload hx (j := (Int32.ofNat i)) (v := .null) (by rw [e22]; exact Ar24.1) (State.isArrayOf_alike hZ.alike Ar24.2.1) rfl Ar24.2.2 (inb_of S24 ⟨(own_ofn hi).2.1, (own_ofn hi).2.2.1⟩) (Has.at H24 (inb_of S24 ⟨(own_ofn hi).2.1, (own_ofn hi).2.2.1⟩) ((own_atV V hi).trans (by rw [hv]; rfl))) (g := (mkF m 23 #[.val (.ref a1), .val (.long q2), .second, .val (.ref a3), .val (.int (15 : Int32)), .val (.int (Int32.ofNat i))] [(.int (Int32.ofNat i)), (.ref va)])) rfl rfl (hb hby d17_23) _ ?_
    show Go p e below T22 (mkF m 24 #[.val (.ref a1), .val (.long q2), .second, .val (.ref a3), .val (.int (15 : Int32)), .val (.int (Int32.ofNat i))] [.null]) _
    refine XS.ifnullYes X22.here hx rfl (pc0 := 24) (pc' := 51) rfl (hb hby d17_24) rfl (by decide) (by decide) ?_
    exact kt)
  exact ⟨T22, X22, e22, q26⟩
theorem own_loop8 {p : Program} {l : Launch} {e : Env} {R : Room} {s : State} {m : MethodId} {args : Array Value} {below : List Frame} {meth : Method} {c : Code} {locs : List Loc} {cells slots : Nat} {Z : State} {a0 : Array Value} {h0 : Heap} (a1 ka va : Addr) (q2 : Int64) (K : Nat → Int64) (V : Nat → Option Addr) (kk kv : ClassId) (hx : p.tables.exec = Jvm.exec) (hZ : Z.Warmed39 s.vm) (hw : ∀ d ∈ tables_1, d.before a0 Z = true) (hby : c.code = prog_17_method_2_code) (hml : c.maxLocals = 5) (hown : s.vm.findClass "com/example/pointward/pointward/pointsto/LongTable" = some m.cls) (Fk : Fld Z h0 a1 "com/example/pointward/pointward/pointsto/LongTable" "keys" "[J" (.ref ka)) (Fv : Fld Z h0 a1 "com/example/pointward/pointward/pointsto/LongTable" "values" "[Ljava/lang/Object;" (.ref va)) (Ak : Arv Z h0 ka kk .long (16 : Int32) (own_kl K) (.long (0 : Int64))) (Av : Arv Z h0 va kv (.object "java/lang/Object") (16 : Int32) (own_vl V) .null)
    (s0 j : Nat) (hb : ∀ i, i < j → (∃ a', V (own_pr s0 i) = some a') ∧ K (own_pr s0 i) ≠ q2) : ∀ (d i : Nat) (T0 : State), i + d = j → Stand p l e R s m args below meth c T0 locs cells slots → T0.heap = h0 →
    ∃ T' : State, Stand p l e R s m args below meth c T' locs cells slots ∧ T'.heap = h0 ∧ ∀ t, Steps p.tables e below (T'.setTop (mkF m 15 #[.val (.ref a1), .val (.long q2), .second, .val (.int (15 : Int32)), .val (.int (Int32.ofNat (own_pr s0 j)))] [])) t → Steps p.tables e below (T0.setTop (mkF m 15 #[.val (.ref a1), .val (.long q2), .second, .val (.int (15 : Int32)), .val (.int (Int32.ofNat (own_pr s0 i)))] [])) t := by
  intro d
  induction d with
  | zero => intro i T0 hd X0 e0; obtain rfl : i = j := by omega
            exact ⟨T0, X0, e0, fun _ k => k⟩
  | succ d ih =>
    intro i T0 hd X0 e0
    obtain ⟨⟨a', hv⟩, hk⟩ := hb i (by omega)
    obtain ⟨T1, X1, e1, st1⟩ := tn8_turn a1 ka va q2 (own_pr s0 i) K V kk kv a' X0 hx hZ hw hby hml hown e0 Fk Fv Ak Av (Nat.mod_lt _ (by decide)) hv hk
    obtain ⟨T2, X2, e2, st2⟩ := ih (i + 1) T1 (by omega) X1 e1
    refine ⟨T2, X2, e2, fun t k => st1 t ?_⟩
    have e : (own_pr s0 i + 1) % 16 = own_pr s0 (i + 1) := by unfold own_pr; omega
    rw [e]
    exact st2 t k
theorem own_loop17 {p : Program} {l : Launch} {e : Env} {R : Room} {s : State} {m : MethodId} {args : Array Value} {below : List Frame} {meth : Method} {c : Code} {locs : List Loc} {cells slots : Nat} {Z : State} {a0 : Array Value} {h0 : Heap} (a1 ka va : Addr) (q2 : Int64) (K : Nat → Int64) (V : Nat → Option Addr) (kk kv : ClassId) (a3 : Addr) (hx : p.tables.exec = Jvm.exec) (hZ : Z.Warmed39 s.vm) (hw : ∀ d ∈ tables_1, d.before a0 Z = true) (hby : c.code = prog_17_method_3_code) (hml : c.maxLocals = 6) (hown : s.vm.findClass "com/example/pointward/pointward/pointsto/LongTable" = some m.cls) (Fk : Fld Z h0 a1 "com/example/pointward/pointward/pointsto/LongTable" "keys" "[J" (.ref ka)) (Fv : Fld Z h0 a1 "com/example/pointward/pointward/pointsto/LongTable" "values" "[Ljava/lang/Object;" (.ref va)) (Ak : Arv Z h0 ka kk .long (16 : Int32) (own_kl K) (.long (0 : Int64))) (Av : Arv Z h0 va kv (.object "java/lang/Object") (16 : Int32) (own_vl V) .null)
    (s0 j : Nat) (hb : ∀ i, i < j → (∃ a', V (own_pr s0 i) = some a') ∧ K (own_pr s0 i) ≠ q2) : ∀ (d i : Nat) (T0 : State), i + d = j → Stand p l e R s m args below meth c T0 locs cells slots → T0.heap = h0 →
    ∃ T' : State, Stand p l e R s m args below meth c T' locs cells slots ∧ T'.heap = h0 ∧ ∀ t, Steps p.tables e below (T'.setTop (mkF m 17 #[.val (.ref a1), .val (.long q2), .second, .val (.ref a3), .val (.int (15 : Int32)), .val (.int (Int32.ofNat (own_pr s0 j)))] [])) t → Steps p.tables e below (T0.setTop (mkF m 17 #[.val (.ref a1), .val (.long q2), .second, .val (.ref a3), .val (.int (15 : Int32)), .val (.int (Int32.ofNat (own_pr s0 i)))] [])) t := by
  intro d
  induction d with
  | zero => intro i T0 hd X0 e0; obtain rfl : i = j := by omega
            exact ⟨T0, X0, e0, fun _ k => k⟩
  | succ d ih =>
    intro i T0 hd X0 e0
    obtain ⟨⟨a', hv⟩, hk⟩ := hb i (by omega)
    obtain ⟨T1, X1, e1, st1⟩ := tn17_turn a1 ka va q2 (own_pr s0 i) K V kk kv a3 a' X0 hx hZ hw hby hml hown e0 Fk Fv Ak Av (Nat.mod_lt _ (by decide)) hv hk
    obtain ⟨T2, X2, e2, st2⟩ := ih (i + 1) T1 (by omega) X1 e1
    refine ⟨T2, X2, e2, fun t k => st1 t ?_⟩
    have e : (own_pr s0 i + 1) % 16 = own_pr s0 (i + 1) := by unfold own_pr; omega
    rw [e]
    exact st2 t k
theorem own_pr0 (q : Int64) : own_sl q = own_pr (own_sl q) 0 := by have := (own_sl_lt q).1; unfold own_pr; omega
theorem ef_8_RJ (m : MethodId) (x0 : Addr) (x1 : Int64) : entryFrame m #[(.ref x0), (.long x1)] 5 = mkF m 0 #[.val (.ref x0), .val (.long x1), .second, .unset, .unset] [] := by first | (simp [entryFrame, mkF, argsToLocals, Value.category]; done) | rfl
theorem pn_8 : plainName "com/example/pointward/pointward/pointsto/LongTable" = true := by first | (simp [plainName, overriddenIn]; done) | decide +kernel
theorem d8_0 : decode prog_17_method_2_code 0 = .ok (.aload_n 0, 1) := by decide +kernel
theorem d8_1 : decode prog_17_method_2_code 1 = .ok (.getfield 7, 3) := by decide +kernel
theorem d8_4 : decode prog_17_method_2_code 4 = .ok (.arraylength, 1) := by decide +kernel
theorem d8_5 : decode prog_17_method_2_code 5 = .ok (.iconst 1, 1) := by decide +kernel
theorem d8_6 : decode prog_17_method_2_code 6 = .ok (.isub, 1) := by decide +kernel
theorem d8_7 : decode prog_17_method_2_code 7 = .ok (.istore_n 3, 1) := by decide +kernel
theorem d8_8 : decode prog_17_method_2_code 8 = .ok (.lload_n 1, 1) := by decide +kernel
theorem d8_9 : decode prog_17_method_2_code 9 = .ok (.iload_n 3, 1) := by decide +kernel
theorem d8_10 : decode prog_17_method_2_code 10 = .ok (.invokestatic 17, 3) := by decide +kernel
theorem pd_1 : parseMethodDescriptor "(JI)I" = some ⟨[.long, .int], some .int⟩ := by decide +kernel
theorem d8_13 : decode prog_17_method_2_code 13 = .ok (.istore 4, 2) := by decide +kernel
theorem d8_56 : decode prog_17_method_2_code 56 = .ok (.aconst_null, 1) := by decide +kernel
theorem d8_57 : decode prog_17_method_2_code 57 = .ok (.areturn, 1) := by decide +kernel
theorem d8_44 : decode prog_17_method_2_code 44 = .ok (.areturn, 1) := by decide +kernel
def Q_rm8 (Z : State) (a1 : Addr) (q2 : Int64) (ka : Addr) (va : Addr) (M : Int64 → Option Addr) (n : Nat) (w_NB : Addr) (w_NW : Addr) (w_EL : Addr) (h0 : Heap) (n0 : Nat) (v : Option Value) (h : Heap) (L : List Loc) : Prop := v = some (own_val (M q2)) ∧ Fr n0 L ∧ h = h0
theorem rm8 (l : Launch) (Z : State) (a0 : Array Value) (hw : ∀ d ∈ tables_1, d.before a0 Z = true) (ws : List Jvm.Cond) {w_NB : Addr} {w_NW : Addr} {w_EL : Addr} (cx : Cx Z w_NB w_NW w_EL) (a1 : Addr) (q2 : Int64) (ka : Addr) (va : Addr) (M : Int64 → Option Addr) (n : Nat) (h0 : Heap) (n0 : Nat) (O0 : Old Z n0 h0) (T1 : Tb Z h0 a1 ka va M n) (hn : n ≤ 3) :
    OwnMet l (⟨"com/example/pointward/pointward/pointsto/LongTable", "get", "(J)Ljava/lang/Object;"⟩ : MethodName) (Jvm.Cond.code (⟨"com/example/pointward/pointward/pointsto/LongTable", "get", "(J)Ljava/lang/Object;"⟩ : MethodName) prog_17_method_2_code 5 (some (.object "java/lang/Object")) :: ws) (own_R 1 0 0 16) #[(.ref a1), (.long q2)] Z h0 (Q_rm8 Z a1 q2 ka va M n w_NB w_NW w_EL h0 n0) := by
  refine own_body (plainFor_of_name pn_8) hisR fun p e s m below meth c s₁ hx hby hml hown hnm hret hZ X0 e0 => ?_
  have N0 := Fr.nil n0
  have pre0 : ∀ t, Go p e below s₁ (mkF m 0 #[.val (.ref a1), .val (.long q2), .second, .unset, .unset] []) t → Go p e below s₁ (entryFrame m #[(.ref a1), (.long q2)] 5) t := fun t k => castTop (ef_8_RJ m a1 q2) k
  obtain ⟨K, V, l', kk, kv, tE, tK, tV, tS, tA, tB, tO, tI, tL, tN, t1, t2, t3⟩ := T1
  have q21 := fun t (kt : Go p e below s₁ (mkF m 1 #[.val (.ref a1), .val (.long q2), .second, .unset, .unset] [(.ref a1)]) t) => pre0 t (by
    show Go p e below s₁ (mkF m 0 #[.val (.ref a1), .val (.long q2), .second, .unset, .unset] []) _
    refine XS.aloadN X0.here hx rfl (hb hby d8_0) rfl rfl ?_
    exact kt)
  obtain ⟨T22, X22, e22, st22⟩ := getF X0 hx hZ hown (host := "") (Or.inl (own_w hw 36 rfl)) Via.refl e0 tK (g := (mkF m 1 #[.val (.ref a1), .val (.long q2), .second, .unset, .unset] [(.ref a1)])) rfl rfl (hb hby d8_1)
  have q23 := fun t (kt : Go p e below T22 (mkF m 4 #[.val (.ref a1), .val (.long q2), .second, .unset, .unset] [(.ref ka)]) t) => q21 t (st22 t kt)
  obtain ⟨c24, Ar24, -, S24, N24, -, -⟩ := id tA
  have q25 := fun t (kt : Go p e below T22 (mkF m 10 #[.val (.ref a1), .val (.long q2), .second, .val (.int (15 : Int32)), .unset] [(.int (15 : Int32)), (.long q2)]) t) => q23 t (by
    show Go p e below T22 (mkF m 4 #[.val (.ref a1), .val (.long q2), .second, .unset, .unset] [(.ref ka)]) _
    refine X22.arraylength hx (by rw [e22]; exact Ar24.1) (State.isArrayOf_alike hZ.alike Ar24.2.1) (g := (mkF m 4 #[.val (.ref a1), .val (.long q2), .second, .unset, .unset] [(.ref ka)])) rfl rfl (hb hby d8_4) _ ?_
    rw [len_of S24 N24]
    show Go p e below T22 (mkF m 5 #[.val (.ref a1), .val (.long q2), .second, .unset, .unset] [(.int (16 : Int32))]) _
    refine XS.iconst X22.here hx rfl (hb hby d8_5) ?_
    show Go p e below T22 (mkF m 6 #[.val (.ref a1), .val (.long q2), .second, .unset, .unset] [(.int (1 : Int32)), (.int (16 : Int32))]) _
    refine XS.isub X22.here hx rfl (hb hby d8_6) rfl ?_
    show Go p e below T22 (mkF m 7 #[.val (.ref a1), .val (.long q2), .second, .unset, .unset] [(.int (15 : Int32))]) _
    refine XS.istoreN X22.here hx rfl (hb hby d8_7) rfl (l' := #[.val (.ref a1), .val (.long q2), .second, .val (.int (15 : Int32)), .unset]) rfl ?_
    show Go p e below T22 (mkF m 8 #[.val (.ref a1), .val (.long q2), .second, .val (.int (15 : Int32)), .unset] []) _
    refine XS.lloadN X22.here hx rfl (hb hby d8_8) rfl ?_
    show Go p e below T22 (mkF m 9 #[.val (.ref a1), .val (.long q2), .second, .val (.int (15 : Int32)), .unset] [(.long q2)]) _
    refine XS.iloadN X22.here hx rfl (hb hby d8_9) rfl ?_
    exact kt)
  obtain ⟨_, _, ⟨T26, L26, k26, n26⟩, -, X26, ⟨Lc26, hQ26, l26, y26, z26⟩, st26⟩ := Jvm.LawKit.callS X22 hx (y := (⟨"com/example/pointward/pointward/pointsto/LongTable", "slot", "(JI)I"⟩ : MethodName)) hown (mvT hZ (own_w hw 60 rfl)) (mvT hZ (own_w hw 61 rfl)) (mvT hZ (own_w hw 30 rfl)) (mvT hZ (own_w hw 62 rfl)) (by decide) (backOf (W := 0) (rm9 l Z a0 hw [] cx q2 (15 : Int32) h0 n0 O0 ) hZ (own_w hw 62 rfl) (own_w hw 30 rfl) (by decide) (by decide)) (g := (mkF m 10 #[.val (.ref a1), .val (.long q2), .second, .val (.int (15 : Int32)), .unset] [(.int (15 : Int32)), (.long q2)])) rfl (by rw [hml]; rfl) (argsL := [(.long q2), (.int (15 : Int32))]) (rest := []) (lenOf pd_1 rfl) rfl (by show 2 * 0 + _ ≤ _; exact Nat.le_of_eq rfl) (hb hby d8_10) (fun _ _ => ⟨rfl, e22, (by decide : 0 + 0 ≤ _), (by decide : 0 + 0 ≤ _)⟩)
  dsimp only [Pt.U, Pt.locs, Pt.cells, Pt.slots] at X26 l26 y26 z26 st26 hQ26
  subst l26 y26 z26
  obtain ⟨rfl, Nq26, eq26⟩ := hQ26
  have N27 := Fr.app N0 Nq26
  have q28 := fun t (kt : Go p e below T26 (mkF m 13 #[.val (.ref a1), .val (.long q2), .second, .val (.int (15 : Int32)), .unset] [(.int ((((q2 * (-7046029254386353131 : Int64)) ^^^ (((q2 * (-7046029254386353131 : Int64)).toUInt64 >>> ((32 : Int32) &&& 0x3f).toInt64.toUInt64).toInt64)).toInt32) &&& (15 : Int32)))]) t) => q25 t (st26 t kt)
  have q29 := fun t (kt : Go p e below T26 (mkF m 13 #[.val (.ref a1), .val (.long q2), .second, .val (.int (15 : Int32)), .unset] [(.int (Int32.ofNat (own_sl q2)))]) t) => q28 t (by rw [(own_sl_lt q2).2]; exact kt)
  have q30 := fun t (kt : Go p e below T26 (mkF m 15 #[.val (.ref a1), .val (.long q2), .second, .val (.int (15 : Int32)), .val (.int (Int32.ofNat (own_sl q2)))] []) t) => q29 t (by
    show Go p e below T26 (mkF m 13 #[.val (.ref a1), .val (.long q2), .second, .val (.int (15 : Int32)), .unset] [(.int (Int32.ofNat (own_sl q2)))]) _
    refine XS.istore X26.here hx rfl (hb hby d8_13) rfl (l' := #[.val (.ref a1), .val (.long q2), .second, .val (.int (15 : Int32)), .val (.int (Int32.ofNat (own_sl q2)))]) rfl ?_
    exact kt)
  have q31 : ∀ t, Go p e below T26 (mkF m 15 #[.val (.ref a1), .val (.long q2), .second, .val (.int (15 : Int32)), .val (.int (Int32.ofNat (own_pr (own_sl q2) 0)))] []) t → Go p e below s₁ (entryFrame m #[(.ref a1), (.long q2)] 5) t := fun t kt => q30 t (by rw [own_pr0 q2]; exact kt)
  obtain ⟨j, hj, hbf, hcase⟩ := own_probe tI (by omega) q2
  obtain ⟨T32, X32, e32, st32⟩ := own_loop8 a1 ka va q2 K V kk kv hx hZ hw hby hml hown tK tV tA tB (own_sl q2) j hbf j 0 T26 (by omega) X26 eq26
  have q33 := fun t (kt : Go p e below T32 (mkF m 15 #[.val (.ref a1), .val (.long q2), .second, .val (.int (15 : Int32)), .val (.int (Int32.ofNat (own_pr (own_sl q2) j)))] []) t) => q31 t (st32 t kt)
  rcases hcase with ⟨hv, hM⟩ | ⟨a', hv, hk, hM⟩
  · skip
    obtain ⟨T34, X34, e34, st34⟩ := tn8_miss a1 ka va q2 (own_pr (own_sl q2) j) K V kk kv X32 hx hZ hw hby hml hown e32 tK tV tA tB (Nat.mod_lt _ (by decide)) hv
    have q35 := fun t (kt : Go p e below T34 (mkF m 56 #[.val (.ref a1), .val (.long q2), .second, .val (.int (15 : Int32)), .val (.int (Int32.ofNat (own_pr (own_sl q2) j)))] []) t) => q33 t (st34 t kt)
    have q36 := fun t (kt : Go p e below T34 (mkF m 57 #[.val (.ref a1), .val (.long q2), .second, .val (.int (15 : Int32)), .val (.int (Int32.ofNat (own_pr (own_sl q2) j)))] [.null]) t) => q35 t (by
      show Go p e below T34 (mkF m 56 #[.val (.ref a1), .val (.long q2), .second, .val (.int (15 : Int32)), .val (.int (Int32.ofNat (own_pr (own_sl q2) j)))] []) _
      refine XS.aconstNull X34.here hx rfl (hb hby d8_56) ?_
      exact kt)
    exact ⟨some .null, T34, _, _, _, _, X34, by decide, by decide, nofun, q36, fun fs hr => retOut X34 hx hret rfl (Or.inr (Or.inr (Or.inr (Or.inr ⟨rfl, rfl, rfl⟩)))) (hb hby d8_57) hr, by rw [e34]; exact ⟨(by rw [hM]; rfl), N27, rfl⟩⟩
  · skip
    obtain ⟨T37, X37, e37, st37⟩ := tn8_hit a1 ka va q2 (own_pr (own_sl q2) j) K V kk kv a' X32 hx hZ hw hby hml hown e32 tK tV tA tB (Nat.mod_lt _ (by decide)) hv hk
    have q38 := fun t (kt : Go p e below T37 (mkF m 44 #[.val (.ref a1), .val (.long q2), .second, .val (.int (15 : Int32)), .val (.int (Int32.ofNat (own_pr (own_sl q2) j)))] [(.ref a')]) t) => q33 t (st37 t kt)
    exact ⟨some (.ref a'), T37, _, _, _, _, X37, by decide, by decide, nofun, q38, fun fs hr => retOut X37 hx hret rfl (Or.inr (Or.inr (Or.inr (Or.inr ⟨rfl, rfl, rfl⟩)))) (hb hby d8_44) hr, by rw [e37]; exact ⟨(by rw [hM]; rfl), N27, rfl⟩⟩
theorem own_nodes {Z : State} {h0 h : Heap} {ws : List Addr} {M : Int64 → Option Addr} {k : Int64} {a3 : Addr} (h10 : ∀ k a, M k = some a → Exa Z h0 a "com/example/pointward/pointward/pointsto/ConstraintGraph$Node") (K : Keep h0 h ws) (E3 : Exa Z h a3 "com/example/pointward/pointward/pointsto/ConstraintGraph$Node") : ∀ k' a, own_upM M k a3 k' = some a → Exa Z h a "com/example/pointward/pointward/pointsto/ConstraintGraph$Node" := fun k' a q => by
  simp only [own_upM] at q
  by_cases e : k' = k
  · rw [if_pos e] at q; cases q; exact E3
  · rw [if_neg e] at q; exact (h10 k' a q).keep K
theorem own_sz {n : Nat} (h : n ≤ 2) : ¬ ((16 : Int32) < ((Int32.ofNat (n + 1)) * (2 : Int32))) := (by decide : ∀ n : Fin 3, ¬ ((16 : Int32) < ((Int32.ofNat (n.val + 1)) * (2 : Int32)))) ⟨n, by omega⟩
theorem ef_17_RJR (m : MethodId) (x0 : Addr) (x1 : Int64) (x2 : Addr) : entryFrame m #[(.ref x0), (.long x1), (.ref x2)] 6 = mkF m 0 #[.val (.ref x0), .val (.long x1), .second, .val (.ref x2), .unset, .unset] [] := by first | (simp [entryFrame, mkF, argsToLocals, Value.category]; done) | rfl
theorem pn_17 : plainName "com/example/pointward/pointward/pointsto/LongTable" = true := by first | (simp [plainName, overriddenIn]; done) | decide +kernel
theorem d17_0 : decode prog_17_method_3_code 0 = .ok (.aload_n 0, 1) := by decide +kernel
theorem d17_1 : decode prog_17_method_3_code 1 = .ok (.getfield 7, 3) := by decide +kernel
theorem d17_4 : decode prog_17_method_3_code 4 = .ok (.arraylength, 1) := by decide +kernel
theorem d17_5 : decode prog_17_method_3_code 5 = .ok (.iconst 1, 1) := by decide +kernel
theorem d17_6 : decode prog_17_method_3_code 6 = .ok (.isub, 1) := by decide +kernel
theorem d17_7 : decode prog_17_method_3_code 7 = .ok (.istore 4, 2) := by decide +kernel
theorem d17_9 : decode prog_17_method_3_code 9 = .ok (.lload_n 1, 1) := by decide +kernel
theorem d17_10 : decode prog_17_method_3_code 10 = .ok (.iload 4, 2) := by decide +kernel
theorem d17_12 : decode prog_17_method_3_code 12 = .ok (.invokestatic 17, 3) := by decide +kernel
theorem d17_15 : decode prog_17_method_3_code 15 = .ok (.istore 5, 2) := by decide +kernel
theorem d17_51 : decode prog_17_method_3_code 51 = .ok (.aload_n 0, 1) := by decide +kernel
theorem d17_52 : decode prog_17_method_3_code 52 = .ok (.getfield 13, 3) := by decide +kernel
theorem d17_55 : decode prog_17_method_3_code 55 = .ok (.iload 5, 2) := by decide +kernel
theorem d17_57 : decode prog_17_method_3_code 57 = .ok (.aaload, 1) := by decide +kernel
theorem d17_58 : decode prog_17_method_3_code 58 = .ok (.ifnonnull 13, 3) := by decide +kernel
theorem d17_61 : decode prog_17_method_3_code 61 = .ok (.aload_n 0, 1) := by decide +kernel
theorem d17_62 : decode prog_17_method_3_code 62 = .ok (.dup, 1) := by decide +kernel
theorem d17_63 : decode prog_17_method_3_code 63 = .ok (.getfield 21, 3) := by decide +kernel
theorem d17_66 : decode prog_17_method_3_code 66 = .ok (.iconst 1, 1) := by decide +kernel
theorem d17_67 : decode prog_17_method_3_code 67 = .ok (.iadd, 1) := by decide +kernel
theorem d17_68 : decode prog_17_method_3_code 68 = .ok (.putfield 21, 3) := by decide +kernel
theorem d17_71 : decode prog_17_method_3_code 71 = .ok (.aload_n 0, 1) := by decide +kernel
theorem d17_72 : decode prog_17_method_3_code 72 = .ok (.getfield 7, 3) := by decide +kernel
theorem d17_75 : decode prog_17_method_3_code 75 = .ok (.iload 5, 2) := by decide +kernel
theorem d17_77 : decode prog_17_method_3_code 77 = .ok (.lload_n 1, 1) := by decide +kernel
theorem d17_78 : decode prog_17_method_3_code 78 = .ok (.lastore, 1) := by decide +kernel
theorem d17_79 : decode prog_17_method_3_code 79 = .ok (.aload_n 0, 1) := by decide +kernel
theorem d17_80 : decode prog_17_method_3_code 80 = .ok (.getfield 13, 3) := by decide +kernel
theorem d17_83 : decode prog_17_method_3_code 83 = .ok (.iload 5, 2) := by decide +kernel
theorem d17_85 : decode prog_17_method_3_code 85 = .ok (.aload_n 3, 1) := by decide +kernel
theorem d17_86 : decode prog_17_method_3_code 86 = .ok (.aastore, 1) := by decide +kernel
theorem d17_87 : decode prog_17_method_3_code 87 = .ok (.aload_n 0, 1) := by decide +kernel
theorem d17_88 : decode prog_17_method_3_code 88 = .ok (.getfield 21, 3) := by decide +kernel
theorem d17_91 : decode prog_17_method_3_code 91 = .ok (.iconst 2, 1) := by decide +kernel
theorem d17_92 : decode prog_17_method_3_code 92 = .ok (.imul, 1) := by decide +kernel
theorem d17_93 : decode prog_17_method_3_code 93 = .ok (.aload_n 0, 1) := by decide +kernel
theorem d17_94 : decode prog_17_method_3_code 94 = .ok (.getfield 7, 3) := by decide +kernel
theorem d17_97 : decode prog_17_method_3_code 97 = .ok (.arraylength, 1) := by decide +kernel
theorem d17_98 : decode prog_17_method_3_code 98 = .ok (.if_icmp .le 7, 3) := by decide +kernel
theorem d17_105 : decode prog_17_method_3_code 105 = .ok (.return_, 1) := by decide +kernel
def Q_rm17 (Z : State) (a1 : Addr) (q2 : Int64) (a3 : Addr) (ka : Addr) (va : Addr) (M : Int64 → Option Addr) (n : Nat) (w_NB : Addr) (w_NW : Addr) (w_EL : Addr) (h0 : Heap) (n0 : Nat) (v : Option Value) (h : Heap) (L : List Loc) : Prop := v = none ∧ Fr n0 L ∧ Keep h0 h [a1, ka, va] ∧ Tb Z h a1 ka va (own_upM M q2 a3) (n + 1)
theorem rm17 (l : Launch) (Z : State) (a0 : Array Value) (hw : ∀ d ∈ tables_1, d.before a0 Z = true) (ws : List Jvm.Cond) {w_NB : Addr} {w_NW : Addr} {w_EL : Addr} (cx : Cx Z w_NB w_NW w_EL) (a1 : Addr) (q2 : Int64) (a3 : Addr) (ka : Addr) (va : Addr) (M : Int64 → Option Addr) (n : Nat) (h0 : Heap) (n0 : Nat) (O0 : Old Z n0 h0) (T1 : Tb Z h0 a1 ka va M n) (E3 : Exa Z h0 a3 "com/example/pointward/pointward/pointsto/ConstraintGraph$Node") (g_a1 : n0 ≤ a1) (g_ka : n0 ≤ ka) (g_va : n0 ≤ va) (hn : n ≤ 2) (hM : M q2 = none) :
    OwnMet l (⟨"com/example/pointward/pointward/pointsto/LongTable", "put", "(JLjava/lang/Object;)V"⟩ : MethodName) (Jvm.Cond.code (⟨"com/example/pointward/pointward/pointsto/LongTable", "put", "(JLjava/lang/Object;)V"⟩ : MethodName) prog_17_method_3_code 6 none :: ws) (own_R 1 0 0 16) #[(.ref a1), (.long q2), (.ref a3)] Z h0 (Q_rm17 Z a1 q2 a3 ka va M n w_NB w_NW w_EL h0 n0) := by
  refine own_body (plainFor_of_name pn_17) hisR fun p e s m below meth c s₁ hx hby hml hown hnm hret hZ X0 e0 => ?_
  have N0 := Fr.nil n0
  have K0 : Keep h0 h0 [a1, ka, va] := Keep.refl _ _
  have pre0 : ∀ t, Go p e below s₁ (mkF m 0 #[.val (.ref a1), .val (.long q2), .second, .val (.ref a3), .unset, .unset] []) t → Go p e below s₁ (entryFrame m #[(.ref a1), (.long q2), (.ref a3)] 6) t := fun t k => castTop (ef_17_RJR m a1 q2 a3) k
  obtain ⟨K, V, l', kk, kv, tE, tK, tV, tS, tA, tB, tO, tI, tL, tN, t1, t2, t3⟩ := T1
  have q21 := fun t (kt : Go p e below s₁ (mkF m 1 #[.val (.ref a1), .val (.long q2), .second, .val (.ref a3), .unset, .unset] [(.ref a1)]) t) => pre0 t (by
    show Go p e below s₁ (mkF m 0 #[.val (.ref a1), .val (.long q2), .second, .val (.ref a3), .unset, .unset] []) _
    refine XS.aloadN X0.here hx rfl (hb hby d17_0) rfl rfl ?_
    exact kt)
  obtain ⟨T22, X22, e22, st22⟩ := getF X0 hx hZ hown (host := "") (Or.inl (own_w hw 36 rfl)) Via.refl e0 tK (g := (mkF m 1 #[.val (.ref a1), .val (.long q2), .second, .val (.ref a3), .unset, .unset] [(.ref a1)])) rfl rfl (hb hby d17_1)
  have q23 := fun t (kt : Go p e below T22 (mkF m 4 #[.val (.ref a1), .val (.long q2), .second, .val (.ref a3), .unset, .unset] [(.ref ka)]) t) => q21 t (st22 t kt)
  obtain ⟨c24, Ar24, -, S24, N24, -, -⟩ := id tA
  have q25 := fun t (kt : Go p e below T22 (mkF m 12 #[.val (.ref a1), .val (.long q2), .second, .val (.ref a3), .val (.int (15 : Int32)), .unset] [(.int (15 : Int32)), (.long q2)]) t) => q23 t (by
    show Go p e below T22 (mkF m 4 #[.val (.ref a1), .val (.long q2), .second, .val (.ref a3), .unset, .unset] [(.ref ka)]) _
    refine X22.arraylength hx (by rw [e22]; exact Ar24.1) (State.isArrayOf_alike hZ.alike Ar24.2.1) (g := (mkF m 4 #[.val (.ref a1), .val (.long q2), .second, .val (.ref a3), .unset, .unset] [(.ref ka)])) rfl rfl (hb hby d17_4) _ ?_
    rw [len_of S24 N24]
    show Go p e below T22 (mkF m 5 #[.val (.ref a1), .val (.long q2), .second, .val (.ref a3), .unset, .unset] [(.int (16 : Int32))]) _
    refine XS.iconst X22.here hx rfl (hb hby d17_5) ?_
    show Go p e below T22 (mkF m 6 #[.val (.ref a1), .val (.long q2), .second, .val (.ref a3), .unset, .unset] [(.int (1 : Int32)), (.int (16 : Int32))]) _
    refine XS.isub X22.here hx rfl (hb hby d17_6) rfl ?_
    show Go p e below T22 (mkF m 7 #[.val (.ref a1), .val (.long q2), .second, .val (.ref a3), .unset, .unset] [(.int (15 : Int32))]) _
    refine XS.istore X22.here hx rfl (hb hby d17_7) rfl (l' := #[.val (.ref a1), .val (.long q2), .second, .val (.ref a3), .val (.int (15 : Int32)), .unset]) rfl ?_
    show Go p e below T22 (mkF m 9 #[.val (.ref a1), .val (.long q2), .second, .val (.ref a3), .val (.int (15 : Int32)), .unset] []) _
    refine XS.lloadN X22.here hx rfl (hb hby d17_9) rfl ?_
    show Go p e below T22 (mkF m 10 #[.val (.ref a1), .val (.long q2), .second, .val (.ref a3), .val (.int (15 : Int32)), .unset] [(.long q2)]) _
    refine XS.iload X22.here hx rfl (hb hby d17_10) rfl ?_
    exact kt)
  obtain ⟨_, _, ⟨T26, L26, k26, n26⟩, -, X26, ⟨Lc26, hQ26, l26, y26, z26⟩, st26⟩ := Jvm.LawKit.callS X22 hx (y := (⟨"com/example/pointward/pointward/pointsto/LongTable", "slot", "(JI)I"⟩ : MethodName)) hown (mvT hZ (own_w hw 60 rfl)) (mvT hZ (own_w hw 61 rfl)) (mvT hZ (own_w hw 30 rfl)) (mvT hZ (own_w hw 62 rfl)) (by decide) (backOf (W := 0) (rm9 l Z a0 hw [] cx q2 (15 : Int32) h0 n0 O0 ) hZ (own_w hw 62 rfl) (own_w hw 30 rfl) (by decide) (by decide)) (g := (mkF m 12 #[.val (.ref a1), .val (.long q2), .second, .val (.ref a3), .val (.int (15 : Int32)), .unset] [(.int (15 : Int32)), (.long q2)])) rfl (by rw [hml]; rfl) (argsL := [(.long q2), (.int (15 : Int32))]) (rest := []) (lenOf pd_1 rfl) rfl (by show 2 * 0 + _ ≤ _; exact Nat.le_of_eq rfl) (hb hby d17_12) (fun _ _ => ⟨rfl, e22, (by decide : 0 + 0 ≤ _), (by decide : 0 + 0 ≤ _)⟩)
  dsimp only [Pt.U, Pt.locs, Pt.cells, Pt.slots] at X26 l26 y26 z26 st26 hQ26
  subst l26 y26 z26
  obtain ⟨rfl, Nq26, eq26⟩ := hQ26
  have N27 := Fr.app N0 Nq26
  have q28 := fun t (kt : Go p e below T26 (mkF m 15 #[.val (.ref a1), .val (.long q2), .second, .val (.ref a3), .val (.int (15 : Int32)), .unset] [(.int ((((q2 * (-7046029254386353131 : Int64)) ^^^ (((q2 * (-7046029254386353131 : Int64)).toUInt64 >>> ((32 : Int32) &&& 0x3f).toInt64.toUInt64).toInt64)).toInt32) &&& (15 : Int32)))]) t) => q25 t (st26 t kt)
  have q29 := fun t (kt : Go p e below T26 (mkF m 15 #[.val (.ref a1), .val (.long q2), .second, .val (.ref a3), .val (.int (15 : Int32)), .unset] [(.int (Int32.ofNat (own_sl q2)))]) t) => q28 t (by rw [(own_sl_lt q2).2]; exact kt)
  have q30 := fun t (kt : Go p e below T26 (mkF m 17 #[.val (.ref a1), .val (.long q2), .second, .val (.ref a3), .val (.int (15 : Int32)), .val (.int (Int32.ofNat (own_sl q2)))] []) t) => q29 t (by
    show Go p e below T26 (mkF m 15 #[.val (.ref a1), .val (.long q2), .second, .val (.ref a3), .val (.int (15 : Int32)), .unset] [(.int (Int32.ofNat (own_sl q2)))]) _
    refine XS.istore X26.here hx rfl (hb hby d17_15) rfl (l' := #[.val (.ref a1), .val (.long q2), .second, .val (.ref a3), .val (.int (15 : Int32)), .val (.int (Int32.ofNat (own_sl q2)))]) rfl ?_
    exact kt)
  have q31 : ∀ t, Go p e below T26 (mkF m 17 #[.val (.ref a1), .val (.long q2), .second, .val (.ref a3), .val (.int (15 : Int32)), .val (.int (Int32.ofNat (own_pr (own_sl q2) 0)))] []) t → Go p e below s₁ (entryFrame m #[(.ref a1), (.long q2), (.ref a3)] 6) t := fun t kt => q30 t (by rw [own_pr0 q2]; exact kt)
  obtain ⟨j, hj, hbf, hcase⟩ := own_probe tI (by omega) q2
  obtain ⟨T32, X32, e32, st32⟩ := own_loop17 a1 ka va q2 K V kk kv a3 hx hZ hw hby hml hown tK tV tA tB (own_sl q2) j hbf j 0 T26 (by omega) X26 eq26
  have q33 := fun t (kt : Go p e below T32 (mkF m 17 #[.val (.ref a1), .val (.long q2), .second, .val (.ref a3), .val (.int (15 : Int32)), .val (.int (Int32.ofNat (own_pr (own_sl q2) j)))] []) t) => q31 t (st32 t kt)
  obtain ⟨hv, -⟩ := hcase.resolve_right (fun ⟨_, _, _, q⟩ => by rw [hM] at q; cases q)
  obtain ⟨T34, X34, e34, st34⟩ := tn17_stop a1 ka va q2 (own_pr (own_sl q2) j) K V kk kv a3 X32 hx hZ hw hby hml hown e32 tK tV tA tB (Nat.mod_lt _ (by decide)) hv
  have q35 := fun t (kt : Go p e below T34 (mkF m 51 #[.val (.ref a1), .val (.long q2), .second, .val (.ref a3), .val (.int (15 : Int32)), .val (.int (Int32.ofNat (own_pr (own_sl q2) j)))] []) t) => q33 t (st34 t kt)
  have hpj : (own_pr (own_sl q2) j) < 16 := Nat.mod_lt _ (by decide)
  have q36 := fun t (kt : Go p e below T34 (mkF m 52 #[.val (.ref a1), .val (.long q2), .second, .val (.ref a3), .val (.int (15 : Int32)), .val (.int (Int32.ofNat (own_pr (own_sl q2) j)))] [(.ref a1)]) t) => q35 t (by
    show Go p e below T34 (mkF m 51 #[.val (.ref a1), .val (.long q2), .second, .val (.ref a3), .val (.int (15 : Int32)), .val (.int (Int32.ofNat (own_pr (own_sl q2) j)))] []) _
    refine XS.aloadN X34.here hx rfl (hb hby d17_51) rfl rfl ?_
    exact kt)
  obtain ⟨T37, X37, e37, st37⟩ := getF X34 hx hZ hown (host := "") (Or.inl (own_w hw 39 rfl)) Via.refl e34 tV (g := (mkF m 52 #[.val (.ref a1), .val (.long q2), .second, .val (.ref a3), .val (.int (15 : Int32)), .val (.int (Int32.ofNat (own_pr (own_sl q2) j)))] [(.ref a1)])) rfl rfl (hb hby d17_52)
  have q38 := fun t (kt : Go p e below T37 (mkF m 55 #[.val (.ref a1), .val (.long q2), .second, .val (.ref a3), .val (.int (15 : Int32)), .val (.int (Int32.ofNat (own_pr (own_sl q2) j)))] [(.ref va)]) t) => q36 t (st37 t kt)
  have q40 := fun t (kt : Go p e below T37 (mkF m 57 #[.val (.ref a1), .val (.long q2), .second, .val (.ref a3), .val (.int (15 : Int32)), .val (.int (Int32.ofNat (own_pr (own_sl q2) j)))] [(.int (Int32.ofNat (own_pr (own_sl q2) j))), (.ref va)]) t) => q38 t (by
    show Go p e below T37 (mkF m 55 #[.val (.ref a1), .val (.long q2), .second, .val (.ref a3), .val (.int (15 : Int32)), .val (.int (Int32.ofNat (own_pr (own_sl q2) j)))] [(.ref va)]) _
    refine XS.iload X37.here hx rfl (hb hby d17_55) rfl ?_
    exact kt)
  obtain ⟨c39, Ar39, -, S39, N39, H39, -⟩ := id tB
  have q41 := fun t (kt : Go p e below T37 (mkF m 63 #[.val (.ref a1), .val (.long q2), .second, .val (.ref a3), .val (.int (15 : Int32)), .val (.int (Int32.ofNat (own_pr (own_sl q2) j)))] [(.ref a1), (.ref a1)]) t) => q40 t (by
    show Go p e below T37 (mkF m 57 #[.val (.ref a1), .val (.long q2), .second, .val (.ref a3), .val (.int (15 : Int32)), .val (.int (Int32.ofNat (own_pr (own_sl q2) j)))] [(.int (Int32.ofNat (own_pr (own_sl q2) j))), (.ref va)]) _
    refine X37.aaload hx (j := (Int32.ofNat (own_pr (own_sl q2) j))) (v := .null) (by rw [e37]; exact Ar39.1) (State.isArrayOf_alike hZ.alike Ar39.2.1) rfl Ar39.2.2 (inb_of S39 ⟨(own_ofn hpj).2.1, (own_ofn hpj).2.2.1⟩) (Has.at H39 (inb_of S39 ⟨(own_ofn hpj).2.1, (own_ofn hpj).2.2.1⟩) ((own_atV V hpj).trans (by rw [hv]; rfl))) (g := (mkF m 57 #[.val (.ref a1), .val (.long q2), .second, .val (.ref a3), .val (.int (15 : Int32)), .val (.int (Int32.ofNat (own_pr (own_sl q2) j)))] [(.int (Int32.ofNat (own_pr (own_sl q2) j))), (.ref va)])) rfl rfl (hb hby d17_57) _ ?_
    show Go p e below T37 (mkF m 58 #[.val (.ref a1), .val (.long q2), .second, .val (.ref a3), .val (.int (15 : Int32)), .val (.int (Int32.ofNat (own_pr (own_sl q2) j)))] [.null]) _
    refine XS.ifnonnullNo X37.here hx rfl (hb hby d17_58) rfl ?_
    show Go p e below T37 (mkF m 61 #[.val (.ref a1), .val (.long q2), .second, .val (.ref a3), .val (.int (15 : Int32)), .val (.int (Int32.ofNat (own_pr (own_sl q2) j)))] []) _
    refine XS.aloadN X37.here hx rfl (hb hby d17_61) rfl rfl ?_
    show Go p e below T37 (mkF m 62 #[.val (.ref a1), .val (.long q2), .second, .val (.ref a3), .val (.int (15 : Int32)), .val (.int (Int32.ofNat (own_pr (own_sl q2) j)))] [(.ref a1)]) _
    refine XS.dup X37.here hx rfl (hb hby d17_62) rfl rfl ?_
    exact kt)
  obtain ⟨T42, X42, e42, st42⟩ := getF X37 hx hZ hown (host := "") (Or.inl (own_w hw 136 rfl)) Via.refl e37 tS (g := (mkF m 63 #[.val (.ref a1), .val (.long q2), .second, .val (.ref a3), .val (.int (15 : Int32)), .val (.int (Int32.ofNat (own_pr (own_sl q2) j)))] [(.ref a1), (.ref a1)])) rfl rfl (hb hby d17_63)
  have q43 := fun t (kt : Go p e below T42 (mkF m 66 #[.val (.ref a1), .val (.long q2), .second, .val (.ref a3), .val (.int (15 : Int32)), .val (.int (Int32.ofNat (own_pr (own_sl q2) j)))] [(.int (Int32.ofNat n)), (.ref a1)]) t) => q41 t (st42 t kt)
  have q44 := fun t (kt : Go p e below T42 (mkF m 68 #[.val (.ref a1), .val (.long q2), .second, .val (.ref a3), .val (.int (15 : Int32)), .val (.int (Int32.ofNat (own_pr (own_sl q2) j)))] [(.int ((Int32.ofNat n) + (1 : Int32))), (.ref a1)]) t) => q43 t (by
    show Go p e below T42 (mkF m 66 #[.val (.ref a1), .val (.long q2), .second, .val (.ref a3), .val (.int (15 : Int32)), .val (.int (Int32.ofNat (own_pr (own_sl q2) j)))] [(.int (Int32.ofNat n)), (.ref a1)]) _
    refine XS.iconst X42.here hx rfl (hb hby d17_66) ?_
    show Go p e below T42 (mkF m 67 #[.val (.ref a1), .val (.long q2), .second, .val (.ref a3), .val (.int (15 : Int32)), .val (.int (Int32.ofNat (own_pr (own_sl q2) j)))] [(.int (1 : Int32)), (.int (Int32.ofNat n)), (.ref a1)]) _
    refine XS.iadd X42.here hx rfl (hb hby d17_67) rfl ?_
    exact kt)
  have q45 := fun t (kt : Go p e below T42 (mkF m 68 #[.val (.ref a1), .val (.long q2), .second, .val (.ref a3), .val (.int (15 : Int32)), .val (.int (Int32.ofNat (own_pr (own_sl q2) j)))] [(.int (Int32.ofNat (n + 1))), (.ref a1)]) t) => q44 t (by rw [(inc_ofNat n).symm]; exact kt)
  obtain ⟨T46, h46, X46, e46, W46, st46⟩ := putF X42 hx hZ hown (host := "") (Or.inl (own_w hw 136 rfl)) Via.refl e42 tS tE (Or.inl (own_w hw 137 rfl)) (own_w hw 29 rfl) (ty := .int) (by decide) rfl rfl (g := (mkF m 68 #[.val (.ref a1), .val (.long q2), .second, .val (.ref a3), .val (.int (15 : Int32)), .val (.int (Int32.ofNat (own_pr (own_sl q2) j)))] [(.int (Int32.ofNat (n + 1))), (.ref a1)])) rfl rfl (hb hby d17_68)
  have q47 := fun t (kt : Go p e below T46 (mkF m 71 #[.val (.ref a1), .val (.long q2), .second, .val (.ref a3), .val (.int (15 : Int32)), .val (.int (Int32.ofNat (own_pr (own_sl q2) j)))] []) t) => q45 t (st46 t kt)
  have f48 : Fld Z h46 a1 "com/example/pointward/pointward/pointsto/LongTable" "size" "I" (.int (Int32.ofNat (n + 1))) := tS.same W46
  have N49 := Fr.snoc X46 N27 g_a1
  have O50 : Old Z n0 h46 := O0.wr W46 g_a1
  have K51 : Keep h0 h46 [a1, ka, va] := K0.wr W46 (Or.inl (List.mem_of_getElem? (i := 0) rfl))
  have f52 : Fld Z h46 a1 "com/example/pointward/pointward/pointsto/LongTable" "keys" "[J" (.ref ka) := (tK.other W46 (Or.inr (slot_ne (Or.inl (own_w hw 37 rfl)) (Or.inl (own_w hw 137 rfl)) (by decide) (t := (.array .long)) (t' := .int) (by decide) (by decide))))
  have q53 := fun t (kt : Go p e below T46 (mkF m 72 #[.val (.ref a1), .val (.long q2), .second, .val (.ref a3), .val (.int (15 : Int32)), .val (.int (Int32.ofNat (own_pr (own_sl q2) j)))] [(.ref a1)]) t) => q47 t (by
    show Go p e below T46 (mkF m 71 #[.val (.ref a1), .val (.long q2), .second, .val (.ref a3), .val (.int (15 : Int32)), .val (.int (Int32.ofNat (own_pr (own_sl q2) j)))] []) _
    refine XS.aloadN X46.here hx rfl (hb hby d17_71) rfl rfl ?_
    exact kt)
  obtain ⟨T54, X54, e54, st54⟩ := getF X46 hx hZ hown (host := "") (Or.inl (own_w hw 36 rfl)) Via.refl e46 f52 (g := (mkF m 72 #[.val (.ref a1), .val (.long q2), .second, .val (.ref a3), .val (.int (15 : Int32)), .val (.int (Int32.ofNat (own_pr (own_sl q2) j)))] [(.ref a1)])) rfl rfl (hb hby d17_72)
  have q55 := fun t (kt : Go p e below T54 (mkF m 75 #[.val (.ref a1), .val (.long q2), .second, .val (.ref a3), .val (.int (15 : Int32)), .val (.int (Int32.ofNat (own_pr (own_sl q2) j)))] [(.ref ka)]) t) => q53 t (st54 t kt)
  have f56 : Arv Z h46 ka kk .long (16 : Int32) (own_kl K) (.long (0 : Int64)) := (tA.other W46 (Ne.symm t1))
  have q58 := fun t (kt : Go p e below T54 (mkF m 78 #[.val (.ref a1), .val (.long q2), .second, .val (.ref a3), .val (.int (15 : Int32)), .val (.int (Int32.ofNat (own_pr (own_sl q2) j)))] [(.long q2), (.int (Int32.ofNat (own_pr (own_sl q2) j))), (.ref ka)]) t) => q55 t (by
    show Go p e below T54 (mkF m 75 #[.val (.ref a1), .val (.long q2), .second, .val (.ref a3), .val (.int (15 : Int32)), .val (.int (Int32.ofNat (own_pr (own_sl q2) j)))] [(.ref ka)]) _
    refine XS.iload X54.here hx rfl (hb hby d17_75) rfl ?_
    show Go p e below T54 (mkF m 77 #[.val (.ref a1), .val (.long q2), .second, .val (.ref a3), .val (.int (15 : Int32)), .val (.int (Int32.ofNat (own_pr (own_sl q2) j)))] [(.int (Int32.ofNat (own_pr (own_sl q2) j))), (.ref ka)]) _
    refine XS.lloadN X54.here hx rfl (hb hby d17_77) rfl ?_
    exact kt)
  obtain ⟨c57, Ar57, q57, S57, N57, H57, G57⟩ := id f56
  have hi57 : ¬ ((Int32.ofNat (own_pr (own_sl q2) j)) < 0 ∨ c57.slots.size ≤ ((Int32.ofNat (own_pr (own_sl q2) j))).toNatClampNeg) := inb_of S57 ⟨(own_ofn hpj).2.1, (own_ofn hpj).2.2.1⟩
  obtain ⟨T59, h59, X59, e59, W59, st59⟩ := stJ X54 hx hZ e54 Ar57 (j := (Int32.ofNat (own_pr (own_sl q2) j))) hi57 (g := (mkF m 78 #[.val (.ref a1), .val (.long q2), .second, .val (.ref a3), .val (.int (15 : Int32)), .val (.int (Int32.ofNat (own_pr (own_sl q2) j)))] [(.long q2), (.int (Int32.ofNat (own_pr (own_sl q2) j))), (.ref ka)])) rfl rfl (hb hby d17_78)
  have q60 := fun t (kt : Go p e below T59 (mkF m 79 #[.val (.ref a1), .val (.long q2), .second, .val (.ref a3), .val (.int (15 : Int32)), .val (.int (Int32.ofNat (own_pr (own_sl q2) j)))] []) t) => q58 t (st59 t kt)
  have V59 : Arv Z h59 ka kk .long (16 : Int32) (own_kl (own_up1 K (own_pr (own_sl q2) j) q2)) (.long (0 : Int64)) := by
    have vv := Arv.set Ar57 q57 S57 N57 H57 G57 rfl W59 (own_pr (own_sl q2) j) (own_ofn hpj).1 (by simpa [own_kl] using hpj)
    rw [own_setK] at vv
    exact vv
  have N61 := Fr.snoc X59 N49 g_ka
  have O62 : Old Z n0 h59 := O50.wr W59 g_ka
  have K63 : Keep h0 h59 [a1, ka, va] := K51.wr W59 (Or.inl (List.mem_of_getElem? (i := 1) rfl))
  have f64 : Fld Z h59 a1 "com/example/pointward/pointward/pointsto/LongTable" "values" "[Ljava/lang/Object;" (.ref va) := ((tV.other W46 (Or.inr (slot_ne (Or.inl (own_w hw 40 rfl)) (Or.inl (own_w hw 137 rfl)) (by decide) (t := (.array (.object "java/lang/Object"))) (t' := .int) (by decide) (by decide)))).other W59 (Or.inl t1))
  have q65 := fun t (kt : Go p e below T59 (mkF m 80 #[.val (.ref a1), .val (.long q2), .second, .val (.ref a3), .val (.int (15 : Int32)), .val (.int (Int32.ofNat (own_pr (own_sl q2) j)))] [(.ref a1)]) t) => q60 t (by
    show Go p e below T59 (mkF m 79 #[.val (.ref a1), .val (.long q2), .second, .val (.ref a3), .val (.int (15 : Int32)), .val (.int (Int32.ofNat (own_pr (own_sl q2) j)))] []) _
    refine XS.aloadN X59.here hx rfl (hb hby d17_79) rfl rfl ?_
    exact kt)
  obtain ⟨T66, X66, e66, st66⟩ := getF X59 hx hZ hown (host := "") (Or.inl (own_w hw 39 rfl)) Via.refl e59 f64 (g := (mkF m 80 #[.val (.ref a1), .val (.long q2), .second, .val (.ref a3), .val (.int (15 : Int32)), .val (.int (Int32.ofNat (own_pr (own_sl q2) j)))] [(.ref a1)])) rfl rfl (hb hby d17_80)
  have q67 := fun t (kt : Go p e below T66 (mkF m 83 #[.val (.ref a1), .val (.long q2), .second, .val (.ref a3), .val (.int (15 : Int32)), .val (.int (Int32.ofNat (own_pr (own_sl q2) j)))] [(.ref va)]) t) => q65 t (st66 t kt)
  have f68 : Arv Z h59 va kv (.object "java/lang/Object") (16 : Int32) (own_vl V) .null := ((tB.other W46 (Ne.symm t2)).other W59 (Ne.symm t3))
  have q70 := fun t (kt : Go p e below T66 (mkF m 86 #[.val (.ref a1), .val (.long q2), .second, .val (.ref a3), .val (.int (15 : Int32)), .val (.int (Int32.ofNat (own_pr (own_sl q2) j)))] [(.ref a3), (.int (Int32.ofNat (own_pr (own_sl q2) j))), (.ref va)]) t) => q67 t (by
    show Go p e below T66 (mkF m 83 #[.val (.ref a1), .val (.long q2), .second, .val (.ref a3), .val (.int (15 : Int32)), .val (.int (Int32.ofNat (own_pr (own_sl q2) j)))] [(.ref va)]) _
    refine XS.iload X66.here hx rfl (hb hby d17_83) rfl ?_
    show Go p e below T66 (mkF m 85 #[.val (.ref a1), .val (.long q2), .second, .val (.ref a3), .val (.int (15 : Int32)), .val (.int (Int32.ofNat (own_pr (own_sl q2) j)))] [(.int (Int32.ofNat (own_pr (own_sl q2) j))), (.ref va)]) _
    refine XS.aloadN X66.here hx rfl (hb hby d17_85) rfl rfl ?_
    exact kt)
  obtain ⟨c69, Ar69, q69, S69, N69, H69, G69⟩ := id f68
  have hi69 : ¬ ((Int32.ofNat (own_pr (own_sl q2) j)) < 0 ∨ c69.slots.size ≤ ((Int32.ofNat (own_pr (own_sl q2) j))).toNatClampNeg) := inb_of S69 ⟨(own_ofn hpj).2.1, (own_ofn hpj).2.2.1⟩
  have f71 : Exa Z h59 a3 "com/example/pointward/pointward/pointsto/ConstraintGraph$Node" := ((E3.wr W46).wr W59)
  obtain ⟨T72, h72, X72, e72, W72, st72⟩ := stR X66 hx hZ e66 Ar69 (j := (Int32.ofNat (own_pr (own_sl q2) j))) hi69 rfl (Sto.ofV Ar69 q69 tO (Ins.of_exa f71 (own_w hw 138 rfl))) (g := (mkF m 86 #[.val (.ref a1), .val (.long q2), .second, .val (.ref a3), .val (.int (15 : Int32)), .val (.int (Int32.ofNat (own_pr (own_sl q2) j)))] [(.ref a3), (.int (Int32.ofNat (own_pr (own_sl q2) j))), (.ref va)])) rfl rfl (hb hby d17_86)
  have q73 := fun t (kt : Go p e below T72 (mkF m 87 #[.val (.ref a1), .val (.long q2), .second, .val (.ref a3), .val (.int (15 : Int32)), .val (.int (Int32.ofNat (own_pr (own_sl q2) j)))] []) t) => q70 t (st72 t kt)
  have V72 : Arv Z h72 va kv (.object "java/lang/Object") (16 : Int32) (own_vl (own_up1 V (own_pr (own_sl q2) j) (some a3))) .null := by
    have vv := Arv.set Ar69 q69 S69 N69 H69 G69 rfl W72 (own_pr (own_sl q2) j) (own_ofn hpj).1 (by simpa [own_vl] using hpj)
    rw [own_setV] at vv
    exact vv
  have N74 := Fr.snoc X72 N61 g_va
  have O75 : Old Z n0 h72 := O62.wr W72 g_va
  have K76 : Keep h0 h72 [a1, ka, va] := K63.wr W72 (Or.inl (List.mem_of_getElem? (i := 2) rfl))
  have f77 : Fld Z h72 a1 "com/example/pointward/pointward/pointsto/LongTable" "size" "I" (.int (Int32.ofNat (n + 1))) := ((f48.other W59 (Or.inl t1)).other W72 (Or.inl t2))
  have q78 := fun t (kt : Go p e below T72 (mkF m 88 #[.val (.ref a1), .val (.long q2), .second, .val (.ref a3), .val (.int (15 : Int32)), .val (.int (Int32.ofNat (own_pr (own_sl q2) j)))] [(.ref a1)]) t) => q73 t (by
    show Go p e below T72 (mkF m 87 #[.val (.ref a1), .val (.long q2), .second, .val (.ref a3), .val (.int (15 : Int32)), .val (.int (Int32.ofNat (own_pr (own_sl q2) j)))] []) _
    refine XS.aloadN X72.here hx rfl (hb hby d17_87) rfl rfl ?_
    exact kt)
  obtain ⟨T79, X79, e79, st79⟩ := getF X72 hx hZ hown (host := "") (Or.inl (own_w hw 136 rfl)) Via.refl e72 f77 (g := (mkF m 88 #[.val (.ref a1), .val (.long q2), .second, .val (.ref a3), .val (.int (15 : Int32)), .val (.int (Int32.ofNat (own_pr (own_sl q2) j)))] [(.ref a1)])) rfl rfl (hb hby d17_88)
  have q80 := fun t (kt : Go p e below T79 (mkF m 91 #[.val (.ref a1), .val (.long q2), .second, .val (.ref a3), .val (.int (15 : Int32)), .val (.int (Int32.ofNat (own_pr (own_sl q2) j)))] [(.int (Int32.ofNat (n + 1)))]) t) => q78 t (st79 t kt)
  have f81 : Fld Z h72 a1 "com/example/pointward/pointward/pointsto/LongTable" "keys" "[J" (.ref ka) := ((f52.other W59 (Or.inl t1)).other W72 (Or.inl t2))
  have q82 := fun t (kt : Go p e below T79 (mkF m 94 #[.val (.ref a1), .val (.long q2), .second, .val (.ref a3), .val (.int (15 : Int32)), .val (.int (Int32.ofNat (own_pr (own_sl q2) j)))] [(.ref a1), (.int ((Int32.ofNat (n + 1)) * (2 : Int32)))]) t) => q80 t (by
    show Go p e below T79 (mkF m 91 #[.val (.ref a1), .val (.long q2), .second, .val (.ref a3), .val (.int (15 : Int32)), .val (.int (Int32.ofNat (own_pr (own_sl q2) j)))] [(.int (Int32.ofNat (n + 1)))]) _
    refine XS.iconst X79.here hx rfl (hb hby d17_91) ?_
    show Go p e below T79 (mkF m 92 #[.val (.ref a1), .val (.long q2), .second, .val (.ref a3), .val (.int (15 : Int32)), .val (.int (Int32.ofNat (own_pr (own_sl q2) j)))] [(.int (2 : Int32)), (.int (Int32.ofNat (n + 1)))]) _
    refine XS.imul X79.here hx rfl (hb hby d17_92) rfl ?_
    show Go p e below T79 (mkF m 93 #[.val (.ref a1), .val (.long q2), .second, .val (.ref a3), .val (.int (15 : Int32)), .val (.int (Int32.ofNat (own_pr (own_sl q2) j)))] [(.int ((Int32.ofNat (n + 1)) * (2 : Int32)))]) _
    refine XS.aloadN X79.here hx rfl (hb hby d17_93) rfl rfl ?_
    exact kt)
  obtain ⟨T83, X83, e83, st83⟩ := getF X79 hx hZ hown (host := "") (Or.inl (own_w hw 36 rfl)) Via.refl e79 f81 (g := (mkF m 94 #[.val (.ref a1), .val (.long q2), .second, .val (.ref a3), .val (.int (15 : Int32)), .val (.int (Int32.ofNat (own_pr (own_sl q2) j)))] [(.ref a1), (.int ((Int32.ofNat (n + 1)) * (2 : Int32)))])) rfl rfl (hb hby d17_94)
  have q84 := fun t (kt : Go p e below T83 (mkF m 97 #[.val (.ref a1), .val (.long q2), .second, .val (.ref a3), .val (.int (15 : Int32)), .val (.int (Int32.ofNat (own_pr (own_sl q2) j)))] [(.ref ka), (.int ((Int32.ofNat (n + 1)) * (2 : Int32)))]) t) => q82 t (st83 t kt)
  have f85 : Arv Z h72 ka kk .long (16 : Int32) (own_kl (own_up1 K (own_pr (own_sl q2) j) q2)) (.long (0 : Int64)) := (V59.other W72 t3)
  obtain ⟨c86, Ar86, -, S86, N86, -, -⟩ := id f85
  have q87 := fun t (kt : Go p e below T83 (mkF m 105 #[.val (.ref a1), .val (.long q2), .second, .val (.ref a3), .val (.int (15 : Int32)), .val (.int (Int32.ofNat (own_pr (own_sl q2) j)))] []) t) => q84 t (by
    show Go p e below T83 (mkF m 97 #[.val (.ref a1), .val (.long q2), .second, .val (.ref a3), .val (.int (15 : Int32)), .val (.int (Int32.ofNat (own_pr (own_sl q2) j)))] [(.ref ka), (.int ((Int32.ofNat (n + 1)) * (2 : Int32)))]) _
    refine X83.arraylength hx (by rw [e83]; exact Ar86.1) (State.isArrayOf_alike hZ.alike Ar86.2.1) (g := (mkF m 97 #[.val (.ref a1), .val (.long q2), .second, .val (.ref a3), .val (.int (15 : Int32)), .val (.int (Int32.ofNat (own_pr (own_sl q2) j)))] [(.ref ka), (.int ((Int32.ofNat (n + 1)) * (2 : Int32)))])) rfl rfl (hb hby d17_97) _ ?_
    rw [len_of S86 N86]
    show Go p e below T83 (mkF m 98 #[.val (.ref a1), .val (.long q2), .second, .val (.ref a3), .val (.int (15 : Int32)), .val (.int (Int32.ofNat (own_pr (own_sl q2) j)))] [(.int (16 : Int32)), (.int ((Int32.ofNat (n + 1)) * (2 : Int32)))]) _
    refine XS.icmpYes X83.here hx rfl (pc0 := 98) (pc' := 105) rfl (hb hby d17_98) rfl (flt (own_sz hn)).2.2.2 (by decide) (by decide) ?_
    exact kt)
  have f88 : Exa Z h72 a1 "com/example/pointward/pointward/pointsto/LongTable" := (((tE.wr W46).wr W59).wr W72)
  have f89 : Fld Z h72 a1 "com/example/pointward/pointward/pointsto/LongTable" "values" "[Ljava/lang/Object;" (.ref va) := (f64.other W72 (Or.inl t2))
  have f90 : Exa Z h72 a3 "com/example/pointward/pointward/pointsto/ConstraintGraph$Node" := (f71.wr W72)
  exact ⟨none, T83, _, _, _, _, X83, by decide, by decide, fun _ => rfl, q87, fun fs hr => X83.returnOut hx hret (hb hby d17_105) hr, by rw [e83]; exact ⟨rfl, N74, K76, ⟨_, _, (own_pr (own_sl q2) j) :: l', kk, kv, f88, f81, f89, f77, f85, V72, tO, own_put tI hj hbf hv hM, (by simp [tL]), own_nodes tN K76 f90, t1, t2, t3⟩⟩⟩
theorem ef_7_RII (m : MethodId) (x0 : Addr) (x1 : Int32) (x2 : Int32) : entryFrame m #[(.ref x0), (.int x1), (.int x2)] 3 = mkF m 0 #[.val (.ref x0), .val (.int x1), .val (.int x2)] [] := by first | (simp [entryFrame, mkF, argsToLocals, Value.category]; done) | rfl
theorem pn_7 : plainName "com/example/pointward/pointward/pointsto/ConstraintGraph" = true := by first | (simp [plainName, overriddenIn]; done) | decide +kernel
theorem d7_0 : decode prog_13_method_4_code 0 = .ok (.aload_n 0, 1) := by decide +kernel
theorem d7_1 : decode prog_13_method_4_code 1 = .ok (.getfield 19, 3) := by decide +kernel
theorem d7_4 : decode prog_13_method_4_code 4 = .ok (.iload_n 1, 1) := by decide +kernel
theorem d7_5 : decode prog_13_method_4_code 5 = .ok (.i2l, 1) := by decide +kernel
theorem d7_6 : decode prog_13_method_4_code 6 = .ok (.bipush 32, 2) := by decide +kernel
theorem d7_8 : decode prog_13_method_4_code 8 = .ok (.lshl, 1) := by decide +kernel
theorem d7_9 : decode prog_13_method_4_code 9 = .ok (.iload_n 2, 1) := by decide +kernel
theorem d7_10 : decode prog_13_method_4_code 10 = .ok (.i2l, 1) := by decide +kernel
theorem d7_11 : decode prog_13_method_4_code 11 = .ok (.lor, 1) := by decide +kernel
theorem d7_12 : decode prog_13_method_4_code 12 = .ok (.invokevirtual 35, 3) := by decide +kernel
theorem pd_2 : parseMethodDescriptor "(J)Ljava/lang/Object;" = some ⟨[.long], some (.object "java/lang/Object")⟩ := by decide +kernel
theorem d7_15 : decode prog_13_method_4_code 15 = .ok (.checkcast 26, 3) := by decide +kernel
theorem d7_18 : decode prog_13_method_4_code 18 = .ok (.areturn, 1) := by decide +kernel
def Q_rm7 (Z : State) (a1 : Addr) (p2 : Int32) (p3 : Int32) (tl : Addr) (ka : Addr) (va : Addr) (M : Int64 → Option Addr) (n : Nat) (w_NB : Addr) (w_NW : Addr) (w_EL : Addr) (h0 : Heap) (n0 : Nat) (v : Option Value) (h : Heap) (L : List Loc) : Prop := v = some (own_val (M (own_key p2 p3))) ∧ Fr n0 L ∧ h = h0
theorem rm7 (l : Launch) (Z : State) (a0 : Array Value) (hw : ∀ d ∈ tables_1, d.before a0 Z = true) (ws : List Jvm.Cond) {w_NB : Addr} {w_NW : Addr} {w_EL : Addr} (cx : Cx Z w_NB w_NW w_EL) (a1 : Addr) (p2 : Int32) (p3 : Int32) (tl : Addr) (ka : Addr) (va : Addr) (M : Int64 → Option Addr) (n : Nat) (h0 : Heap) (n0 : Nat) (O0 : Old Z n0 h0) (F1 : Fld Z h0 a1 "com/example/pointward/pointward/pointsto/ConstraintGraph" "fields" "Lcom/example/pointward/pointward/pointsto/LongTable;" (.ref tl)) (T1 : Tb Z h0 tl ka va M n) (hn : n ≤ 3) :
    OwnMet l (⟨"com/example/pointward/pointward/pointsto/ConstraintGraph", "existingField", "(II)Lcom/example/pointward/pointward/pointsto/ConstraintGraph$Node;"⟩ : MethodName) (Jvm.Cond.code (⟨"com/example/pointward/pointward/pointsto/ConstraintGraph", "existingField", "(II)Lcom/example/pointward/pointward/pointsto/ConstraintGraph$Node;"⟩ : MethodName) prog_13_method_4_code 3 (some (.object "com/example/pointward/pointward/pointsto/ConstraintGraph$Node")) :: ws) (own_R 2 0 0 32) #[(.ref a1), (.int p2), (.int p3)] Z h0 (Q_rm7 Z a1 p2 p3 tl ka va M n w_NB w_NW w_EL h0 n0) := by
  refine own_body (plainFor_of_name pn_7) hisR fun p e s m below meth c s₁ hx hby hml hown hnm hret hZ X0 e0 => ?_
  have N0 := Fr.nil n0
  have pre0 : ∀ t, Go p e below s₁ (mkF m 0 #[.val (.ref a1), .val (.int p2), .val (.int p3)] []) t → Go p e below s₁ (entryFrame m #[(.ref a1), (.int p2), (.int p3)] 3) t := fun t k => castTop (ef_7_RII m a1 p2 p3) k
  have q21 := fun t (kt : Go p e below s₁ (mkF m 1 #[.val (.ref a1), .val (.int p2), .val (.int p3)] [(.ref a1)]) t) => pre0 t (by
    show Go p e below s₁ (mkF m 0 #[.val (.ref a1), .val (.int p2), .val (.int p3)] []) _
    refine XS.aloadN X0.here hx rfl (hb hby d7_0) rfl rfl ?_
    exact kt)
  obtain ⟨T22, X22, e22, st22⟩ := getF X0 hx hZ hown (host := "") (Or.inl (own_w hw 41 rfl)) Via.refl e0 F1 (g := (mkF m 1 #[.val (.ref a1), .val (.int p2), .val (.int p3)] [(.ref a1)])) rfl rfl (hb hby d7_1)
  have q23 := fun t (kt : Go p e below T22 (mkF m 4 #[.val (.ref a1), .val (.int p2), .val (.int p3)] [(.ref tl)]) t) => q21 t (st22 t kt)
  have q24 := fun t (kt : Go p e below T22 (mkF m 12 #[.val (.ref a1), .val (.int p2), .val (.int p3)] [(.long (((p2.toInt64) <<< ((32 : Int32) &&& 0x3f).toInt64) ||| (p3.toInt64))), (.ref tl)]) t) => q23 t (by
    show Go p e below T22 (mkF m 4 #[.val (.ref a1), .val (.int p2), .val (.int p3)] [(.ref tl)]) _
    refine XS.iloadN X22.here hx rfl (hb hby d7_4) rfl ?_
    show Go p e below T22 (mkF m 5 #[.val (.ref a1), .val (.int p2), .val (.int p3)] [(.int p2), (.ref tl)]) _
    refine XS.i2l X22.here hx rfl (hb hby d7_5) rfl ?_
    show Go p e below T22 (mkF m 6 #[.val (.ref a1), .val (.int p2), .val (.int p3)] [(.long (p2.toInt64)), (.ref tl)]) _
    refine XS.bipush X22.here hx rfl (hb hby d7_6) ?_
    show Go p e below T22 (mkF m 8 #[.val (.ref a1), .val (.int p2), .val (.int p3)] [(.int (32 : Int32)), (.long (p2.toInt64)), (.ref tl)]) _
    refine XS.lshl X22.here hx rfl (hb hby d7_8) rfl ?_
    show Go p e below T22 (mkF m 9 #[.val (.ref a1), .val (.int p2), .val (.int p3)] [(.long ((p2.toInt64) <<< ((32 : Int32) &&& 0x3f).toInt64)), (.ref tl)]) _
    refine XS.iloadN X22.here hx rfl (hb hby d7_9) rfl ?_
    show Go p e below T22 (mkF m 10 #[.val (.ref a1), .val (.int p2), .val (.int p3)] [(.int p3), (.long ((p2.toInt64) <<< ((32 : Int32) &&& 0x3f).toInt64)), (.ref tl)]) _
    refine XS.i2l X22.here hx rfl (hb hby d7_10) rfl ?_
    show Go p e below T22 (mkF m 11 #[.val (.ref a1), .val (.int p2), .val (.int p3)] [(.long (p3.toInt64)), (.long ((p2.toInt64) <<< ((32 : Int32) &&& 0x3f).toInt64)), (.ref tl)]) _
    refine XS.lor X22.here hx rfl (hb hby d7_11) rfl ?_
    exact kt)
  have q25 := fun t (kt : Go p e below T22 (mkF m 12 #[.val (.ref a1), .val (.int p2), .val (.int p3)] [(.long (own_key p2 p3)), (.ref tl)]) t) => q24 t (by rw [(show (((p2.toInt64) <<< ((32 : Int32) &&& 0x3f).toInt64) ||| (p3.toInt64)) = (own_key p2 p3) from rfl)]; exact kt)
  obtain ⟨cq27, kq27, q27a, q27b, q27c⟩ := isOf hZ e22 T1.exa
  obtain ⟨_, _, ⟨T26, L26, k26, n26⟩, -, X26, ⟨Lc26, hQ26, l26, y26, z26⟩, st26⟩ := X22.virtualBack hx (y := (⟨"com/example/pointward/pointward/pointsto/LongTable", "get", "(J)Ljava/lang/Object;"⟩ : MethodName)) (z := (⟨"com/example/pointward/pointward/pointsto/LongTable", "get", "(J)Ljava/lang/Object;"⟩ : MethodName)) hown (mvT hZ (own_w hw 55 rfl)) (mvT hZ (own_w hw 56 rfl)) (notFace_of_selects (args := #[]) (mvT hZ (own_w hw 58 rfl))) (mvT hZ (own_w hw 58 rfl)) (mvT hZ (own_w hw 57 rfl)) (by decide) (backOf (W := 0) (rm8 l Z a0 hw [] cx tl (own_key p2 p3) ka va M n h0 n0 O0 T1 hn) hZ (own_w hw 59 rfl) (own_w hw 30 rfl) (by decide) (by decide)) q27a q27c (g := (mkF m 12 #[.val (.ref a1), .val (.int p2), .val (.int p3)] [(.long (own_key p2 p3)), (.ref tl)])) rfl (by rw [hml]; rfl) (Steps.refl _) (argsL := [(.long (own_key p2 p3))]) (rest := []) (lenOf pd_2 rfl) rfl (by show 2 * 0 + _ ≤ _; exact Nat.le_of_eq rfl) (hb hby d7_12) (fun _ _ => ⟨rfl, e22, (by decide : 0 + 0 ≤ _), (by decide : 0 + 0 ≤ _)⟩)
  dsimp only [Pt.U, Pt.locs, Pt.cells, Pt.slots] at X26 l26 y26 z26 st26 hQ26
  subst l26 y26 z26
  obtain ⟨rfl, Nq26, eq26⟩ := hQ26
  have N28 := Fr.app N0 Nq26
  have q29 := fun t (kt : Go p e below T26 (mkF m 15 #[.val (.ref a1), .val (.int p2), .val (.int p3)] [(own_val (M (own_key p2 p3)))]) t) => q25 t (st26.trans kt)
  rcases own_opt (M (own_key p2 p3)) with hM0 | ⟨x', hM0⟩
  · skip
    have q30 : ∀ t, Go p e below T26 (mkF m 15 #[.val (.ref a1), .val (.int p2), .val (.int p3)] [.null]) t → Go p e below s₁ (entryFrame m #[(.ref a1), (.int p2), (.int p3)] 3) t := fun t kt => q29 t (by rw [hM0]; exact kt)
    have q31 := fun t (kt : Go p e below T26 (mkF m 18 #[.val (.ref a1), .val (.int p2), .val (.int p3)] [.null]) t) => q30 t (by
      show Go p e below T26 (mkF m 15 #[.val (.ref a1), .val (.int p2), .val (.int p3)] [.null]) _
      refine X26.checkcastNull hx (g := (mkF m 15 #[.val (.ref a1), .val (.int p2), .val (.int p3)] [.null])) rfl rfl (hb hby d7_15) _ ?_
      exact kt)
    exact ⟨some .null, T26, _, _, _, _, X26, by decide, by decide, nofun, q31, fun fs hr => retOut X26 hx hret rfl (Or.inr (Or.inr (Or.inr (Or.inr ⟨rfl, rfl, rfl⟩)))) (hb hby d7_18) hr, by rw [eq26]; exact ⟨(by rw [hM0]; rfl), N28, rfl⟩⟩
  · skip
    have q32 : ∀ t, Go p e below T26 (mkF m 15 #[.val (.ref a1), .val (.int p2), .val (.int p3)] [(.ref x')]) t → Go p e below s₁ (entryFrame m #[(.ref a1), (.int p2), (.int p3)] 3) t := fun t kt => q29 t (by rw [hM0]; exact kt)
    obtain ⟨T33, X33, e33, st33⟩ := castY X26 hx hZ hown (own_w hw 74 rfl) eq26 (Ins.self (Tb.node T1 hM0)) (g := (mkF m 15 #[.val (.ref a1), .val (.int p2), .val (.int p3)] [(.ref x')])) rfl rfl (hb hby d7_15)
    have q34 := fun t (kt : Go p e below T33 (mkF m 18 #[.val (.ref a1), .val (.int p2), .val (.int p3)] [(.ref x')]) t) => q32 t (st33 t kt)
    exact ⟨some (.ref x'), T33, _, _, _, _, X33, by decide, by decide, nofun, q34, fun fs hr => retOut X33 hx hret rfl (Or.inr (Or.inr (Or.inr (Or.inr ⟨rfl, rfl, rfl⟩)))) (hb hby d7_18) hr, by rw [e33]; exact ⟨(by rw [hM0]; rfl), N28, rfl⟩⟩
theorem ef_16_ (m : MethodId) : entryFrame m #[] 0 = mkF m 0 #[] [] := by first | (simp [entryFrame, mkF, argsToLocals, Value.category]; done) | rfl
theorem pn_16 : plainName "java/util/List" = true := by first | (simp [plainName, overriddenIn]; done) | decide +kernel
theorem d16_0 : decode jdk_40_method_36_code 0 = .ok (.getstatic 90, 3) := by decide +kernel
theorem d16_3 : decode jdk_40_method_36_code 3 = .ok (.areturn, 1) := by decide +kernel
def Q_rm16 (Z : State) (w_NB : Addr) (w_NW : Addr) (w_EL : Addr) (h0 : Heap) (n0 : Nat) (v : Option Value) (h : Heap) (L : List Loc) : Prop := v = some (.ref w_EL) ∧ Fr n0 L ∧ h = h0
theorem rm16 (l : Launch) (Z : State) (a0 : Array Value) (hw : ∀ d ∈ tables_1, d.before a0 Z = true) (ws : List Jvm.Cond) {w_NB : Addr} {w_NW : Addr} {w_EL : Addr} (cx : Cx Z w_NB w_NW w_EL) (h0 : Heap) (n0 : Nat) (O0 : Old Z n0 h0) :
    OwnMet l (⟨"java/util/List", "of", "()Ljava/util/List;"⟩ : MethodName) (Jvm.Cond.code (⟨"java/util/List", "of", "()Ljava/util/List;"⟩ : MethodName) jdk_40_method_36_code 0 (some (.object "java/util/List")) :: ws) (own_R 0 0 0 0) #[] Z h0 (Q_rm16 Z  w_NB w_NW w_EL h0 n0) := by
  refine own_body (plainFor_of_name pn_16) hisR fun p e s m below meth c s₁ hx hby hml hown hnm hret hZ X0 e0 => ?_
  have N0 := Fr.nil n0
  have pre0 : ∀ t, Go p e below s₁ (mkF m 0 #[] []) t → Go p e below s₁ (entryFrame m #[] 0) t := fun t k => castTop (ef_16_ m ) k
  obtain ⟨T21, X21, e21, st21⟩ := getS2 X0 hx hZ hown (host := "") (Or.inl (own_w hw 125 rfl)) Via.refl e0 (cx.2.2.ext O0.2) (g := (mkF m 0 #[] [])) rfl (hb hby d16_0)
  have q22 := fun t (kt : Go p e below T21 (mkF m 3 #[] [(.ref w_EL)]) t) => pre0 t (st21 t kt)
  exact ⟨some (.ref w_EL), T21, _, _, _, _, X21, by decide, by decide, nofun, q22, fun fs hr => retOut X21 hx hret rfl (Or.inr (Or.inr (Or.inr (Or.inr ⟨rfl, rfl, rfl⟩)))) (hb hby d16_3) hr, by rw [e21]; exact ⟨rfl, N0, rfl⟩⟩
theorem ef_15_R (m : MethodId) (x0 : Addr) : entryFrame m #[(.ref x0)] 1 = mkF m 0 #[.val (.ref x0)] [] := by first | (simp [entryFrame, mkF, argsToLocals, Value.category]; done) | rfl
theorem pn_15 : plainName "java/util/AbstractList" = true := by first | (simp [plainName, overriddenIn]; done) | decide +kernel
theorem d15_0 : decode jdk_39_method_1_code 0 = .ok (.aload_n 0, 1) := by decide +kernel
theorem d15_1 : decode jdk_39_method_1_code 1 = .ok (.invokespecial 1, 3) := by decide +kernel
theorem d15_4 : decode jdk_39_method_1_code 4 = .ok (.aload_n 0, 1) := by decide +kernel
theorem d15_5 : decode jdk_39_method_1_code 5 = .ok (.iconst 0, 1) := by decide +kernel
theorem d15_6 : decode jdk_39_method_1_code 6 = .ok (.putfield 7, 3) := by decide +kernel
theorem d15_9 : decode jdk_39_method_1_code 9 = .ok (.return_, 1) := by decide +kernel
def Q_rm15 (Z : State) (a1 : Addr) (w_NB : Addr) (w_NW : Addr) (w_EL : Addr) (h0 : Heap) (n0 : Nat) (v : Option Value) (h : Heap) (L : List Loc) : Prop := v = none ∧ Fr n0 L ∧ Keep h0 h [a1] ∧ Fld Z h a1 "java/util/ArrayList" "elementData" "[Ljava/lang/Object;" .null
theorem rm15 (l : Launch) (Z : State) (a0 : Array Value) (hw : ∀ d ∈ tables_1, d.before a0 Z = true) (ws : List Jvm.Cond) {w_NB : Addr} {w_NW : Addr} {w_EL : Addr} (cx : Cx Z w_NB w_NW w_EL) (a1 : Addr) (h0 : Heap) (n0 : Nat) (O0 : Old Z n0 h0) (E1 : Exa Z h0 a1 "java/util/ArrayList") (F1 : Fld Z h0 a1 "java/util/AbstractList" "modCount" "I" (.int (0 : Int32))) (F2 : Fld Z h0 a1 "java/util/ArrayList" "elementData" "[Ljava/lang/Object;" .null) (g_a1 : n0 ≤ a1) :
    OwnMet l (⟨"java/util/AbstractList", "<init>", "()V"⟩ : MethodName) (Jvm.Cond.code (⟨"java/util/AbstractList", "<init>", "()V"⟩ : MethodName) jdk_39_method_1_code 1 none :: ws) (own_R 2 0 0 24) #[(.ref a1)] Z h0 (Q_rm15 Z a1 w_NB w_NW w_EL h0 n0) := by
  refine own_body (plainFor_of_name pn_15) hisR fun p e s m below meth c s₁ hx hby hml hown hnm hret hZ X0 e0 => ?_
  have N0 := Fr.nil n0
  have K0 : Keep h0 h0 [a1] := Keep.refl _ _
  have pre0 : ∀ t, Go p e below s₁ (mkF m 0 #[.val (.ref a1)] []) t → Go p e below s₁ (entryFrame m #[(.ref a1)] 1) t := fun t k => castTop (ef_15_R m a1) k
  have q21 := fun t (kt : Go p e below s₁ (mkF m 1 #[.val (.ref a1)] [(.ref a1)]) t) => pre0 t (by
    show Go p e below s₁ (mkF m 0 #[.val (.ref a1)] []) _
    refine XS.aloadN X0.here hx rfl (hb hby d15_0) rfl rfl ?_
    exact kt)
  obtain ⟨_, _, ⟨T22, L22, k22, n22⟩, -, X22, ⟨Lc22, hQ22, l22, y22, z22⟩, st22⟩ := X0.specialBack hx (y := (⟨"java/util/AbstractCollection", "<init>", "()V"⟩ : MethodName)) rfl hown (mvT hZ (own_w hw 112 rfl)) (mvT hZ (own_w hw 16 rfl)) (mvT hZ (own_w hw 20 rfl)) (by decide) (backOf (W := 0) (rm4 l Z a0 hw [] cx a1 h0 n0 O0 ) hZ (own_w hw 20 rfl) (own_w hw 19 rfl) (by decide) (by decide)) (g := (mkF m 1 #[.val (.ref a1)] [(.ref a1)])) rfl (by rw [hml]; rfl) (Steps.refl _) (a := a1) (argsL := []) (rest := []) (lenOf pd_0 rfl) rfl (by show 2 * 0 + _ ≤ _; exact Nat.le_of_eq rfl) (hb hby d15_1) (fun _ _ => ⟨rfl, e0, (by decide : 0 + 0 ≤ _), (by decide : 0 + 0 ≤ _)⟩)
  dsimp only [Pt.U, Pt.locs, Pt.cells, Pt.slots] at X22 l22 y22 z22 st22 hQ22
  subst l22 y22 z22
  obtain ⟨rfl, Nq22, eq22⟩ := hQ22
  have N23 := Fr.app N0 Nq22
  have q24 := fun t (kt : Go p e below T22 (mkF m 4 #[.val (.ref a1)] []) t) => q21 t (st22.trans kt)
  have q25 := fun t (kt : Go p e below T22 (mkF m 6 #[.val (.ref a1)] [(.int (0 : Int32)), (.ref a1)]) t) => q24 t (by
    show Go p e below T22 (mkF m 4 #[.val (.ref a1)] []) _
    refine XS.aloadN X22.here hx rfl (hb hby d15_4) rfl rfl ?_
    show Go p e below T22 (mkF m 5 #[.val (.ref a1)] [(.ref a1)]) _
    refine XS.iconst X22.here hx rfl (hb hby d15_5) ?_
    exact kt)
  obtain ⟨T26, h26, X26, e26, W26, st26⟩ := putF X22 hx hZ hown (host := "") (Or.inl (own_w hw 114 rfl)) Via.refl eq22 F1 E1 (Or.inl (own_w hw 115 rfl)) (own_w hw 101 rfl) (ty := .int) (by decide) rfl rfl (g := (mkF m 6 #[.val (.ref a1)] [(.int (0 : Int32)), (.ref a1)])) rfl rfl (hb hby d15_6)
  have q27 := fun t (kt : Go p e below T26 (mkF m 9 #[.val (.ref a1)] []) t) => q25 t (st26 t kt)
  have f28 : Fld Z h26 a1 "java/util/AbstractList" "modCount" "I" (.int (0 : Int32)) := F1.same W26
  have N29 := Fr.snoc X26 N23 g_a1
  have O30 : Old Z n0 h26 := O0.wr W26 g_a1
  have K31 : Keep h0 h26 [a1] := K0.wr W26 (Or.inl (List.mem_of_getElem? (i := 0) rfl))
  have f32 : Fld Z h26 a1 "java/util/ArrayList" "elementData" "[Ljava/lang/Object;" .null := (F2.other W26 (Or.inr (slot_ne (Or.inl (own_w hw 118 rfl)) (Or.inl (own_w hw 115 rfl)) (by decide) (t := (.array (.object "java/lang/Object"))) (t' := .int) (by decide) (by decide))))
  exact ⟨none, T26, _, _, _, _, X26, by decide, by decide, fun _ => rfl, q27, fun fs hr => X26.returnOut hx hret (hb hby d15_9) hr, by rw [e26]; exact ⟨rfl, N29, K31, f32⟩⟩
theorem ef_14_RI (m : MethodId) (x0 : Addr) (x1 : Int32) : entryFrame m #[(.ref x0), (.int x1)] 2 = mkF m 0 #[.val (.ref x0), .val (.int x1)] [] := by first | (simp [entryFrame, mkF, argsToLocals, Value.category]; done) | rfl
theorem pn_14 : plainName "java/util/ArrayList" = true := by first | (simp [plainName, overriddenIn]; done) | decide +kernel
theorem d14_0 : decode jdk_38_method_1_code 0 = .ok (.aload_n 0, 1) := by decide +kernel
theorem d14_1 : decode jdk_38_method_1_code 1 = .ok (.invokespecial 1, 3) := by decide +kernel
theorem d14_4 : decode jdk_38_method_1_code 4 = .ok (.iload_n 1, 1) := by decide +kernel
theorem d14_5 : decode jdk_38_method_1_code 5 = .ok (.ifCond .le 14, 3) := by decide +kernel
theorem d14_8 : decode jdk_38_method_1_code 8 = .ok (.aload_n 0, 1) := by decide +kernel
theorem d14_9 : decode jdk_38_method_1_code 9 = .ok (.iload_n 1, 1) := by decide +kernel
theorem d14_10 : decode jdk_38_method_1_code 10 = .ok (.anewarray 7, 3) := by decide +kernel
theorem d14_13 : decode jdk_38_method_1_code 13 = .ok (.putfield 9, 3) := by decide +kernel
theorem d14_16 : decode jdk_38_method_1_code 16 = .ok (.goto 44, 3) := by decide +kernel
theorem d14_60 : decode jdk_38_method_1_code 60 = .ok (.return_, 1) := by decide +kernel
def Q_rm14 (Z : State) (a1 : Addr) (w_NB : Addr) (w_NW : Addr) (w_EL : Addr) (h0 : Heap) (n0 : Nat) (v : Option Value) (h : Heap) (L : List Loc) : Prop := v = none ∧ Fr n0 L ∧ Keep h0 h [a1]
theorem rm14 (l : Launch) (Z : State) (a0 : Array Value) (hw : ∀ d ∈ tables_1, d.before a0 Z = true) (ws : List Jvm.Cond) {w_NB : Addr} {w_NW : Addr} {w_EL : Addr} (cx : Cx Z w_NB w_NW w_EL) (a1 : Addr) (h0 : Heap) (n0 : Nat) (O0 : Old Z n0 h0) (E1 : Exa Z h0 a1 "java/util/ArrayList") (F1 : Fld Z h0 a1 "java/util/AbstractList" "modCount" "I" (.int (0 : Int32))) (F2 : Fld Z h0 a1 "java/util/ArrayList" "elementData" "[Ljava/lang/Object;" .null) (g_a1 : n0 ≤ a1) :
    OwnMet l (⟨"java/util/ArrayList", "<init>", "(I)V"⟩ : MethodName) (Jvm.Cond.code (⟨"java/util/ArrayList", "<init>", "(I)V"⟩ : MethodName) jdk_38_method_1_code 2 none :: ws) (own_R 3 1 2 36) #[(.ref a1), (.int (2 : Int32))] Z h0 (Q_rm14 Z a1 w_NB w_NW w_EL h0 n0) := by
  refine own_body (plainFor_of_name pn_14) hisR fun p e s m below meth c s₁ hx hby hml hown hnm hret hZ X0 e0 => ?_
  have N0 := Fr.nil n0
  have K0 : Keep h0 h0 [a1] := Keep.refl _ _
  have pre0 : ∀ t, Go p e below s₁ (mkF m 0 #[.val (.ref a1), .val (.int (2 : Int32))] []) t → Go p e below s₁ (entryFrame m #[(.ref a1), (.int (2 : Int32))] 2) t := fun t k => castTop (ef_14_RI m a1 (2 : Int32)) k
  have q21 := fun t (kt : Go p e below s₁ (mkF m 1 #[.val (.ref a1), .val (.int (2 : Int32))] [(.ref a1)]) t) => pre0 t (by
    show Go p e below s₁ (mkF m 0 #[.val (.ref a1), .val (.int (2 : Int32))] []) _
    refine XS.aloadN X0.here hx rfl (hb hby d14_0) rfl rfl ?_
    exact kt)
  obtain ⟨_, _, ⟨T22, L22, k22, n22⟩, -, X22, ⟨Lc22, hQ22, l22, y22, z22⟩, st22⟩ := X0.specialBack hx (y := (⟨"java/util/AbstractList", "<init>", "()V"⟩ : MethodName)) rfl hown (mvT hZ (own_w hw 106 rfl)) (mvT hZ (own_w hw 107 rfl)) (mvT hZ (own_w hw 111 rfl)) (by decide) (backOf (W := 0) (rm15 l Z a0 hw [] cx a1 h0 n0 O0 E1 F1 F2 g_a1) hZ (own_w hw 111 rfl) (own_w hw 110 rfl) (by decide) (by decide)) (g := (mkF m 1 #[.val (.ref a1), .val (.int (2 : Int32))] [(.ref a1)])) rfl (by rw [hml]; rfl) (Steps.refl _) (a := a1) (argsL := []) (rest := []) (lenOf pd_0 rfl) rfl (by show 2 * 0 + _ ≤ _; exact Nat.le_of_eq rfl) (hb hby d14_1) (fun _ _ => ⟨rfl, e0, (by decide : 0 + 0 ≤ _), (by decide : 0 + 0 ≤ _)⟩)
  dsimp only [Pt.U, Pt.locs, Pt.cells, Pt.slots] at X22 l22 y22 z22 st22 hQ22
  subst l22 y22 z22
  obtain ⟨rfl, Nq22, Kq22, fq22_0⟩ := hQ22
  have N23 := Fr.app N0 Nq22
  have q24 := fun t (kt : Go p e below T22 (mkF m 4 #[.val (.ref a1), .val (.int (2 : Int32))] []) t) => q21 t (st22.trans kt)
  have O25 : Old Z n0 T22.heap := O0.keep Kq22 (allS g_a1 all0)
  have K26 : Keep h0 T22.heap [a1] := K0.trans Kq22 (allS (Or.inl (List.mem_of_getElem? (i := 0) rfl)) all0)
  have q27 := fun t (kt : Go p e below T22 (mkF m 10 #[.val (.ref a1), .val (.int (2 : Int32))] [(.int (2 : Int32)), (.ref a1)]) t) => q24 t (by
    show Go p e below T22 (mkF m 4 #[.val (.ref a1), .val (.int (2 : Int32))] []) _
    refine XS.iloadN X22.here hx rfl (hb hby d14_4) rfl ?_
    show Go p e below T22 (mkF m 5 #[.val (.ref a1), .val (.int (2 : Int32))] [(.int (2 : Int32))]) _
    refine XS.ifNo X22.here hx rfl (hb hby d14_5) rfl ((if0 _ _).trans (tlt (by decide : (0 : Int32) < (2 : Int32))).2.2.2) ?_
    show Go p e below T22 (mkF m 8 #[.val (.ref a1), .val (.int (2 : Int32))] []) _
    refine XS.aloadN X22.here hx rfl (hb hby d14_8) rfl rfl ?_
    show Go p e below T22 (mkF m 9 #[.val (.ref a1), .val (.int (2 : Int32))] [(.ref a1)]) _
    refine XS.iloadN X22.here hx rfl (hb hby d14_9) rfl ?_
    exact kt)
  obtain ⟨T28, h28, k28, X28, e28, E28, A28, O_28, st28⟩ := newR X22 hx hZ hown (own_w hw 116 rfl) (own_w hw 23 rfl) rfl (g := (mkF m 10 #[.val (.ref a1), .val (.int (2 : Int32))] [(.int (2 : Int32)), (.ref a1)])) rfl (hb hby d14_10) rfl (by decide) (cap := 2) (by decide) (by decide) (by decide) (by decide)
  obtain ⟨b28, g28⟩ : ∃ z, z = T22.heap.size := ⟨_, rfl⟩
  rw [← g28] at A28 st28
  have gg29 : n0 ≤ b28 := Nat.le_trans (O25.1 ▸ O25.2.1) (Nat.le_of_eq g28.symm)
  have sz30 : h0.size ≤ b28 := Nat.le_trans K26.1 (Nat.le_of_eq g28.symm)
  have q31 := fun t (kt : Go p e below T28 (mkF m 13 #[.val (.ref a1), .val (.int (2 : Int32))] [(.ref b28), (.ref a1)]) t) => q27 t (st28 t kt)
  have O32 : Old Z n0 h28 := O25.ext E28
  have K33 : Keep h0 h28 [a1] := K26.ext E28
  have V28 : Arv Z h28 b28 k28 (.object "java/lang/Object") (2 : Int32) [.null, .null] .null := (Arv.new A28 (by decide)).pad (pad_rep [] .null 2)
  have f34 : Exa Z h28 a1 "java/util/ArrayList" := ((E1.keep Kq22).ext E28)
  have f35 : Fld Z h28 a1 "java/util/ArrayList" "elementData" "[Ljava/lang/Object;" .null := (fq22_0.ext E28)
  obtain ⟨T36, h36, X36, e36, W36, st36⟩ := putF X28 hx hZ hown (host := "") (Or.inl (own_w hw 117 rfl)) Via.refl e28 f35 f34 (Or.inl (own_w hw 118 rfl)) (own_w hw 101 rfl) (ty := (.array (.object "java/lang/Object"))) (by decide) rfl rfl (g := (mkF m 13 #[.val (.ref a1), .val (.int (2 : Int32))] [(.ref b28), (.ref a1)])) rfl rfl (hb hby d14_13)
  have q37 := fun t (kt : Go p e below T36 (mkF m 16 #[.val (.ref a1), .val (.int (2 : Int32))] []) t) => q31 t (st36 t kt)
  have f38 : Fld Z h36 a1 "java/util/ArrayList" "elementData" "[Ljava/lang/Object;" (.ref b28) := f35.same W36
  have N39 := Fr.snoc X36 N23 g_a1
  have O40 : Old Z n0 h36 := O32.wr W36 g_a1
  have K41 : Keep h0 h36 [a1] := K33.wr W36 (Or.inl (List.mem_of_getElem? (i := 0) rfl))
  have q42 := fun t (kt : Go p e below T36 (mkF m 60 #[.val (.ref a1), .val (.int (2 : Int32))] []) t) => q37 t (by
    show Go p e below T36 (mkF m 16 #[.val (.ref a1), .val (.int (2 : Int32))] []) _
    refine XS.goto X36.here hx rfl (pc0 := 16) (pc' := 60) rfl (hb hby d14_16) (by decide) (by decide) ?_
    exact kt)
  exact ⟨none, T36, _, _, _, _, X36, by decide, by decide, fun _ => rfl, q42, fun fs hr => X36.returnOut hx hret (hb hby d14_60) hr, by rw [e36]; exact ⟨rfl, N39, K41⟩⟩
theorem ef_13_R (m : MethodId) (x0 : Addr) : entryFrame m #[(.ref x0)] 1 = mkF m 0 #[.val (.ref x0)] [] := by first | (simp [entryFrame, mkF, argsToLocals, Value.category]; done) | rfl
theorem pn_13 : plainName "com/example/pointward/pointward/pointsto/SiteSet" = true := by first | (simp [plainName, overriddenIn]; done) | decide +kernel
theorem d13_0 : decode prog_18_method_1_code 0 = .ok (.aload_n 0, 1) := by decide +kernel
theorem d13_1 : decode prog_18_method_1_code 1 = .ok (.invokespecial 1, 3) := by decide +kernel
theorem d13_4 : decode prog_18_method_1_code 4 = .ok (.aload_n 0, 1) := by decide +kernel
theorem d13_5 : decode prog_18_method_1_code 5 = .ok (.getstatic 7, 3) := by decide +kernel
theorem d13_8 : decode prog_18_method_1_code 8 = .ok (.putfield 13, 3) := by decide +kernel
theorem d13_11 : decode prog_18_method_1_code 11 = .ok (.aload_n 0, 1) := by decide +kernel
theorem d13_12 : decode prog_18_method_1_code 12 = .ok (.getstatic 16, 3) := by decide +kernel
theorem d13_15 : decode prog_18_method_1_code 15 = .ok (.putfield 20, 3) := by decide +kernel
theorem d13_18 : decode prog_18_method_1_code 18 = .ok (.return_, 1) := by decide +kernel
def Q_rm13 (Z : State) (a1 : Addr) (w_NB : Addr) (w_NW : Addr) (w_EL : Addr) (h0 : Heap) (n0 : Nat) (v : Option Value) (h : Heap) (L : List Loc) : Prop := v = none ∧ Fr n0 L ∧ Keep h0 h [a1]
theorem rm13 (l : Launch) (Z : State) (a0 : Array Value) (hw : ∀ d ∈ tables_1, d.before a0 Z = true) (ws : List Jvm.Cond) {w_NB : Addr} {w_NW : Addr} {w_EL : Addr} (cx : Cx Z w_NB w_NW w_EL) (a1 : Addr) (h0 : Heap) (n0 : Nat) (O0 : Old Z n0 h0) (E1 : Exa Z h0 a1 "com/example/pointward/pointward/pointsto/SiteSet") (F1 : Fld Z h0 a1 "com/example/pointward/pointward/pointsto/SiteSet" "blocks" "[I" .null) (F2 : Fld Z h0 a1 "com/example/pointward/pointward/pointsto/SiteSet" "words" "[J" .null) (g_a1 : n0 ≤ a1) :
    OwnMet l (⟨"com/example/pointward/pointward/pointsto/SiteSet", "<init>", "()V"⟩ : MethodName) (Jvm.Cond.code (⟨"com/example/pointward/pointward/pointsto/SiteSet", "<init>", "()V"⟩ : MethodName) prog_18_method_1_code 1 none :: ws) (own_R 1 0 0 12) #[(.ref a1)] Z h0 (Q_rm13 Z a1 w_NB w_NW w_EL h0 n0) := by
  refine own_body (plainFor_of_name pn_13) hisR fun p e s m below meth c s₁ hx hby hml hown hnm hret hZ X0 e0 => ?_
  have N0 := Fr.nil n0
  have K0 : Keep h0 h0 [a1] := Keep.refl _ _
  have pre0 : ∀ t, Go p e below s₁ (mkF m 0 #[.val (.ref a1)] []) t → Go p e below s₁ (entryFrame m #[(.ref a1)] 1) t := fun t k => castTop (ef_13_R m a1) k
  have q21 := fun t (kt : Go p e below s₁ (mkF m 1 #[.val (.ref a1)] [(.ref a1)]) t) => pre0 t (by
    show Go p e below s₁ (mkF m 0 #[.val (.ref a1)] []) _
    refine XS.aloadN X0.here hx rfl (hb hby d13_0) rfl rfl ?_
    exact kt)
  obtain ⟨T22, X22, e22, st22⟩ := initO X0 hx hZ hown (own_w hw 89 rfl) (own_w hw 7 rfl) (own_w hw 8 rfl) e0 (g := (mkF m 1 #[.val (.ref a1)] [(.ref a1)])) rfl (by rw [hml]; rfl) rfl (hb hby d13_1) (by decide) (W := 0) (by show 2 * 0 + _ ≤ _; exact Nat.le_of_eq rfl) (by decide)
  have q23 := fun t (kt : Go p e below T22 (mkF m 4 #[.val (.ref a1)] []) t) => q21 t (st22 t kt)
  have q24 := fun t (kt : Go p e below T22 (mkF m 5 #[.val (.ref a1)] [(.ref a1)]) t) => q23 t (by
    show Go p e below T22 (mkF m 4 #[.val (.ref a1)] []) _
    refine XS.aloadN X22.here hx rfl (hb hby d13_4) rfl rfl ?_
    exact kt)
  obtain ⟨T25, X25, e25, st25⟩ := getS2 X22 hx hZ hown (host := "") (Or.inl (own_w hw 90 rfl)) Via.refl e22 (cx.1.ext O0.2) (g := (mkF m 5 #[.val (.ref a1)] [(.ref a1)])) rfl (hb hby d13_5)
  have q26 := fun t (kt : Go p e below T25 (mkF m 8 #[.val (.ref a1)] [(.ref w_NB), (.ref a1)]) t) => q24 t (st25 t kt)
  obtain ⟨T27, h27, X27, e27, W27, st27⟩ := putF X25 hx hZ hown (host := "") (Or.inl (own_w hw 92 rfl)) Via.refl e25 F1 E1 (Or.inl (own_w hw 93 rfl)) (own_w hw 84 rfl) (ty := (.array .int)) (by decide) rfl rfl (g := (mkF m 8 #[.val (.ref a1)] [(.ref w_NB), (.ref a1)])) rfl rfl (hb hby d13_8)
  have q28 := fun t (kt : Go p e below T27 (mkF m 11 #[.val (.ref a1)] []) t) => q26 t (st27 t kt)
  have f29 : Fld Z h27 a1 "com/example/pointward/pointward/pointsto/SiteSet" "blocks" "[I" (.ref w_NB) := F1.same W27
  have N30 := Fr.snoc X27 N0 g_a1
  have O31 : Old Z n0 h27 := O0.wr W27 g_a1
  have K32 : Keep h0 h27 [a1] := K0.wr W27 (Or.inl (List.mem_of_getElem? (i := 0) rfl))
  have q33 := fun t (kt : Go p e below T27 (mkF m 12 #[.val (.ref a1)] [(.ref a1)]) t) => q28 t (by
    show Go p e below T27 (mkF m 11 #[.val (.ref a1)] []) _
    refine XS.aloadN X27.here hx rfl (hb hby d13_11) rfl rfl ?_
    exact kt)
  obtain ⟨T34, X34, e34, st34⟩ := getS2 X27 hx hZ hown (host := "") (Or.inl (own_w hw 94 rfl)) Via.refl e27 (cx.2.1.ext O31.2) (g := (mkF m 12 #[.val (.ref a1)] [(.ref a1)])) rfl (hb hby d13_12)
  have q35 := fun t (kt : Go p e below T34 (mkF m 15 #[.val (.ref a1)] [(.ref w_NW), (.ref a1)]) t) => q33 t (st34 t kt)
  have f36 : Exa Z h27 a1 "com/example/pointward/pointward/pointsto/SiteSet" := (E1.wr W27)
  have f37 : Fld Z h27 a1 "com/example/pointward/pointward/pointsto/SiteSet" "words" "[J" .null := (F2.other W27 (Or.inr (slot_ne (Or.inl (own_w hw 97 rfl)) (Or.inl (own_w hw 93 rfl)) (by decide) (t := (.array .long)) (t' := (.array .int)) (by decide) (by decide))))
  obtain ⟨T38, h38, X38, e38, W38, st38⟩ := putF X34 hx hZ hown (host := "") (Or.inl (own_w hw 96 rfl)) Via.refl e34 f37 f36 (Or.inl (own_w hw 97 rfl)) (own_w hw 84 rfl) (ty := (.array .long)) (by decide) rfl rfl (g := (mkF m 15 #[.val (.ref a1)] [(.ref w_NW), (.ref a1)])) rfl rfl (hb hby d13_15)
  have q39 := fun t (kt : Go p e below T38 (mkF m 18 #[.val (.ref a1)] []) t) => q35 t (st38 t kt)
  have f40 : Fld Z h38 a1 "com/example/pointward/pointward/pointsto/SiteSet" "words" "[J" (.ref w_NW) := f37.same W38
  have N41 := Fr.snoc X38 N30 g_a1
  have O42 : Old Z n0 h38 := O31.wr W38 g_a1
  have K43 : Keep h0 h38 [a1] := K32.wr W38 (Or.inl (List.mem_of_getElem? (i := 0) rfl))
  exact ⟨none, T38, _, _, _, _, X38, by decide, by decide, fun _ => rfl, q39, fun fs hr => X38.returnOut hx hret (hb hby d13_18) hr, by rw [e38]; exact ⟨rfl, N41, K43⟩⟩
theorem ef_12_RI (m : MethodId) (x0 : Addr) (x1 : Int32) : entryFrame m #[(.ref x0), (.int x1)] 2 = mkF m 0 #[.val (.ref x0), .val (.int x1)] [] := by first | (simp [entryFrame, mkF, argsToLocals, Value.category]; done) | rfl
theorem pn_12 : plainName "com/example/pointward/pointward/pointsto/ConstraintGraph$Node" = true := by first | (simp [plainName, overriddenIn]; done) | decide +kernel
theorem d12_0 : decode prog_14_method_1_code 0 = .ok (.aload_n 0, 1) := by decide +kernel
theorem d12_1 : decode prog_14_method_1_code 1 = .ok (.invokespecial 1, 3) := by decide +kernel
theorem d12_4 : decode prog_14_method_1_code 4 = .ok (.aload_n 0, 1) := by decide +kernel
theorem d12_5 : decode prog_14_method_1_code 5 = .ok (.new 7, 3) := by decide +kernel
theorem d12_8 : decode prog_14_method_1_code 8 = .ok (.dup, 1) := by decide +kernel
theorem d12_9 : decode prog_14_method_1_code 9 = .ok (.invokespecial 9, 3) := by decide +kernel
theorem d12_12 : decode prog_14_method_1_code 12 = .ok (.putfield 10, 3) := by decide +kernel
theorem d12_15 : decode prog_14_method_1_code 15 = .ok (.aload_n 0, 1) := by decide +kernel
theorem d12_16 : decode prog_14_method_1_code 16 = .ok (.new 16, 3) := by decide +kernel
theorem d12_19 : decode prog_14_method_1_code 19 = .ok (.dup, 1) := by decide +kernel
theorem d12_20 : decode prog_14_method_1_code 20 = .ok (.iconst 2, 1) := by decide +kernel
theorem d12_21 : decode prog_14_method_1_code 21 = .ok (.invokespecial 18, 3) := by decide +kernel
theorem pd_3 : parseMethodDescriptor "(I)V" = some ⟨[.int], none⟩ := by decide +kernel
theorem d12_24 : decode prog_14_method_1_code 24 = .ok (.putfield 21, 3) := by decide +kernel
theorem d12_27 : decode prog_14_method_1_code 27 = .ok (.aload_n 0, 1) := by decide +kernel
theorem d12_28 : decode prog_14_method_1_code 28 = .ok (.invokestatic 25, 3) := by decide +kernel
theorem pd_4 : parseMethodDescriptor "()Ljava/util/List;" = some ⟨[], some (.object "java/util/List")⟩ := by decide +kernel
theorem d12_31 : decode prog_14_method_1_code 31 = .ok (.putfield 31, 3) := by decide +kernel
theorem d12_34 : decode prog_14_method_1_code 34 = .ok (.aload_n 0, 1) := by decide +kernel
theorem d12_35 : decode prog_14_method_1_code 35 = .ok (.iload_n 1, 1) := by decide +kernel
theorem d12_36 : decode prog_14_method_1_code 36 = .ok (.putfield 34, 3) := by decide +kernel
theorem d12_39 : decode prog_14_method_1_code 39 = .ok (.return_, 1) := by decide +kernel
def Q_rm12 (Z : State) (a1 : Addr) (p2 : Int32) (w_NB : Addr) (w_NW : Addr) (w_EL : Addr) (h0 : Heap) (n0 : Nat) (v : Option Value) (h : Heap) (L : List Loc) : Prop := v = none ∧ Fr n0 L ∧ Keep h0 h [a1]
theorem rm12 (l : Launch) (Z : State) (a0 : Array Value) (hw : ∀ d ∈ tables_1, d.before a0 Z = true) (ws : List Jvm.Cond) {w_NB : Addr} {w_NW : Addr} {w_EL : Addr} (cx : Cx Z w_NB w_NW w_EL) (a1 : Addr) (p2 : Int32) (h0 : Heap) (n0 : Nat) (O0 : Old Z n0 h0) (E1 : Exa Z h0 a1 "com/example/pointward/pointward/pointsto/ConstraintGraph$Node") (F1 : Fld Z h0 a1 "com/example/pointward/pointward/pointsto/ConstraintGraph$Node" "sites" "Lcom/example/pointward/pointward/pointsto/SiteSet;" .null) (F2 : Fld Z h0 a1 "com/example/pointward/pointward/pointsto/ConstraintGraph$Node" "successors" "Ljava/util/List;" .null) (F3 : Fld Z h0 a1 "com/example/pointward/pointward/pointsto/ConstraintGraph$Node" "listeners" "Ljava/util/List;" .null) (F4 : Fld Z h0 a1 "com/example/pointward/pointward/pointsto/ConstraintGraph$Node" "id" "I" (.int (0 : Int32))) (g_a1 : n0 ≤ a1) :
    OwnMet l (⟨"com/example/pointward/pointward/pointsto/ConstraintGraph$Node", "<init>", "(I)V"⟩ : MethodName) (Jvm.Cond.code (⟨"com/example/pointward/pointward/pointsto/ConstraintGraph$Node", "<init>", "(I)V"⟩ : MethodName) prog_14_method_1_code 2 none :: ws) (own_R 4 3 8 51) #[(.ref a1), (.int p2)] Z h0 (Q_rm12 Z a1 p2 w_NB w_NW w_EL h0 n0) := by
  refine own_body (plainFor_of_name pn_12) hisR fun p e s m below meth c s₁ hx hby hml hown hnm hret hZ X0 e0 => ?_
  have N0 := Fr.nil n0
  have K0 : Keep h0 h0 [a1] := Keep.refl _ _
  have pre0 : ∀ t, Go p e below s₁ (mkF m 0 #[.val (.ref a1), .val (.int p2)] []) t → Go p e below s₁ (entryFrame m #[(.ref a1), (.int p2)] 2) t := fun t k => castTop (ef_12_RI m a1 p2) k
  have q21 := fun t (kt : Go p e below s₁ (mkF m 1 #[.val (.ref a1), .val (.int p2)] [(.ref a1)]) t) => pre0 t (by
    show Go p e below s₁ (mkF m 0 #[.val (.ref a1), .val (.int p2)] []) _
    refine XS.aloadN X0.here hx rfl (hb hby d12_0) rfl rfl ?_
    exact kt)
  obtain ⟨T22, X22, e22, st22⟩ := initO X0 hx hZ hown (own_w hw 82 rfl) (own_w hw 7 rfl) (own_w hw 8 rfl) e0 (g := (mkF m 1 #[.val (.ref a1), .val (.int p2)] [(.ref a1)])) rfl (by rw [hml]; rfl) rfl (hb hby d12_1) (by decide) (W := 0) (by show 2 * 0 + _ ≤ _; exact Nat.le_of_eq rfl) (by decide)
  have q23 := fun t (kt : Go p e below T22 (mkF m 4 #[.val (.ref a1), .val (.int p2)] []) t) => q21 t (st22 t kt)
  have q24 := fun t (kt : Go p e below T22 (mkF m 5 #[.val (.ref a1), .val (.int p2)] [(.ref a1)]) t) => q23 t (by
    show Go p e below T22 (mkF m 4 #[.val (.ref a1), .val (.int p2)] []) _
    refine XS.aloadN X22.here hx rfl (hb hby d12_4) rfl rfl ?_
    exact kt)
  obtain ⟨T25, h25, X25, e25, E25, A25, D25, U25, st25⟩ := newO X22 hx hZ hown (own_w hw 83 rfl) (own_w hw 84 rfl) (own_w hw 85 rfl) e22 (g := (mkF m 5 #[.val (.ref a1), .val (.int p2)] [(.ref a1)])) rfl (hb hby d12_5) (by decide) (by decide)
  obtain ⟨b25, g25⟩ : ∃ z, z = h0.size := ⟨_, rfl⟩
  rw [← g25] at A25 D25 st25
  have gg26 : n0 ≤ b25 := Nat.le_trans (O0.1 ▸ O0.2.1) (Nat.le_of_eq g25.symm)
  have sz27 : h0.size ≤ b25 := Nat.le_trans K0.1 (Nat.le_of_eq g25.symm)
  have q28 := fun t (kt : Go p e below T25 (mkF m 8 #[.val (.ref a1), .val (.int p2)] [(.ref b25), (.ref a1)]) t) => q24 t (st25 t kt)
  have O29 : Old Z n0 h25 := O0.ext E25
  have K30 : Keep h0 h25 [a1] := K0.ext E25
  have F25_blocks : Fld Z h25 b25 "com/example/pointward/pointward/pointsto/SiteSet" "blocks" "[I" .null := D25 (Or.inl (own_w hw 93 rfl)) (ty := (.array .int)) (by decide)
  have F25_words : Fld Z h25 b25 "com/example/pointward/pointward/pointsto/SiteSet" "words" "[J" .null := D25 (Or.inl (own_w hw 97 rfl)) (ty := (.array .long)) (by decide)
  have q31 := fun t (kt : Go p e below T25 (mkF m 9 #[.val (.ref a1), .val (.int p2)] [(.ref b25), (.ref b25), (.ref a1)]) t) => q28 t (by
    show Go p e below T25 (mkF m 8 #[.val (.ref a1), .val (.int p2)] [(.ref b25), (.ref a1)]) _
    refine XS.dup X25.here hx rfl (hb hby d12_8) rfl rfl ?_
    exact kt)
  obtain ⟨_, _, ⟨T32, L32, k32, n32⟩, -, X32, ⟨Lc32, hQ32, l32, y32, z32⟩, st32⟩ := X25.specialBack hx (y := (⟨"com/example/pointward/pointward/pointsto/SiteSet", "<init>", "()V"⟩ : MethodName)) rfl hown (mvT hZ (own_w hw 86 rfl)) (mvT hZ (own_w hw 87 rfl)) (mvT hZ (own_w hw 88 rfl)) (by decide) (backOf (W := 2) (rm13 l Z a0 hw [] cx b25 h25 n0 O29 A25 F25_blocks F25_words gg26) hZ (own_w hw 88 rfl) (own_w hw 85 rfl) (by decide) (by decide)) (g := (mkF m 9 #[.val (.ref a1), .val (.int p2)] [(.ref b25), (.ref b25), (.ref a1)])) rfl (by rw [hml]; rfl) (Steps.refl _) (a := b25) (argsL := []) (rest := [(.ref b25), (.ref a1)]) (lenOf pd_0 rfl) rfl (by show 2 * 0 + _ ≤ _; exact Nat.le_of_eq rfl) (hb hby d12_9) (fun _ _ => ⟨rfl, e25, (by decide : 1 + 0 ≤ _), (by decide : 3 + 0 ≤ _)⟩)
  dsimp only [Pt.U, Pt.locs, Pt.cells, Pt.slots] at X32 l32 y32 z32 st32 hQ32
  subst l32 y32 z32
  obtain ⟨rfl, Nq32, Kq32⟩ := hQ32
  have N33 := Fr.app N0 Nq32
  have q34 := fun t (kt : Go p e below T32 (mkF m 12 #[.val (.ref a1), .val (.int p2)] [(.ref b25), (.ref a1)]) t) => q31 t (st32.trans kt)
  have O35 : Old Z n0 T32.heap := O29.keep Kq32 (allS gg26 all0)
  have K36 : Keep h0 T32.heap [a1] := K30.trans Kq32 (allS (Or.inr sz27) all0)
  have f37 : Exa Z T32.heap a1 "com/example/pointward/pointward/pointsto/ConstraintGraph$Node" := ((E1.ext E25).keep Kq32)
  have f38 : Fld Z T32.heap a1 "com/example/pointward/pointward/pointsto/ConstraintGraph$Node" "sites" "Lcom/example/pointward/pointward/pointsto/SiteSet;" .null := ((F1.ext E25).keep Kq32 (ninS (Nat.ne_of_lt (Nat.lt_of_lt_of_le E1.lt (Nat.le_of_eq g25.symm))) nin0))
  obtain ⟨T39, h39, X39, e39, W39, st39⟩ := putF X32 hx hZ hown (host := "") (Or.inl (own_w hw 98 rfl)) Via.refl rfl f38 f37 (Or.inr ⟨(own_w hw 99 rfl), rfl, hnm⟩) (own_w hw 75 rfl) (ty := (.object "com/example/pointward/pointward/pointsto/SiteSet")) (by decide) rfl rfl (g := (mkF m 12 #[.val (.ref a1), .val (.int p2)] [(.ref b25), (.ref a1)])) rfl rfl (hb hby d12_12)
  have q40 := fun t (kt : Go p e below T39 (mkF m 15 #[.val (.ref a1), .val (.int p2)] []) t) => q34 t (st39 t kt)
  have f41 : Fld Z h39 a1 "com/example/pointward/pointward/pointsto/ConstraintGraph$Node" "sites" "Lcom/example/pointward/pointward/pointsto/SiteSet;" (.ref b25) := f38.same W39
  have N42 := Fr.snoc X39 N33 g_a1
  have O43 : Old Z n0 h39 := O35.wr W39 g_a1
  have K44 : Keep h0 h39 [a1] := K36.wr W39 (Or.inl (List.mem_of_getElem? (i := 0) rfl))
  have q45 := fun t (kt : Go p e below T39 (mkF m 16 #[.val (.ref a1), .val (.int p2)] [(.ref a1)]) t) => q40 t (by
    show Go p e below T39 (mkF m 15 #[.val (.ref a1), .val (.int p2)] []) _
    refine XS.aloadN X39.here hx rfl (hb hby d12_15) rfl rfl ?_
    exact kt)
  obtain ⟨T46, h46, X46, e46, E46, A46, D46, U46, st46⟩ := newO X39 hx hZ hown (own_w hw 100 rfl) (own_w hw 101 rfl) (own_w hw 102 rfl) e39 (g := (mkF m 16 #[.val (.ref a1), .val (.int p2)] [(.ref a1)])) rfl (hb hby d12_16) (by decide) (by decide)
  obtain ⟨b46, g46⟩ : ∃ z, z = h39.size := ⟨_, rfl⟩
  rw [← g46] at A46 D46 st46
  have gg47 : n0 ≤ b46 := Nat.le_trans (O43.1 ▸ O43.2.1) (Nat.le_of_eq g46.symm)
  have sz48 : h0.size ≤ b46 := Nat.le_trans K44.1 (Nat.le_of_eq g46.symm)
  have q49 := fun t (kt : Go p e below T46 (mkF m 19 #[.val (.ref a1), .val (.int p2)] [(.ref b46), (.ref a1)]) t) => q45 t (st46 t kt)
  have O50 : Old Z n0 h46 := O43.ext E46
  have K51 : Keep h0 h46 [a1] := K44.ext E46
  have F46_modCount : Fld Z h46 b46 "java/util/AbstractList" "modCount" "I" (.int (0 : Int32)) := D46 (Or.inl (own_w hw 115 rfl)) (ty := .int) (by decide)
  have F46_elementData : Fld Z h46 b46 "java/util/ArrayList" "elementData" "[Ljava/lang/Object;" .null := D46 (Or.inl (own_w hw 118 rfl)) (ty := (.array (.object "java/lang/Object"))) (by decide)
  have q52 := fun t (kt : Go p e below T46 (mkF m 21 #[.val (.ref a1), .val (.int p2)] [(.int (2 : Int32)), (.ref b46), (.ref b46), (.ref a1)]) t) => q49 t (by
    show Go p e below T46 (mkF m 19 #[.val (.ref a1), .val (.int p2)] [(.ref b46), (.ref a1)]) _
    refine XS.dup X46.here hx rfl (hb hby d12_19) rfl rfl ?_
    show Go p e below T46 (mkF m 20 #[.val (.ref a1), .val (.int p2)] [(.ref b46), (.ref b46), (.ref a1)]) _
    refine XS.iconst X46.here hx rfl (hb hby d12_20) ?_
    exact kt)
  obtain ⟨_, _, ⟨T53, L53, k53, n53⟩, -, X53, ⟨Lc53, hQ53, l53, y53, z53⟩, st53⟩ := X46.specialBack hx (y := (⟨"java/util/ArrayList", "<init>", "(I)V"⟩ : MethodName)) rfl hown (mvT hZ (own_w hw 103 rfl)) (mvT hZ (own_w hw 104 rfl)) (mvT hZ (own_w hw 105 rfl)) (by decide) (backOf (W := 2) (rm14 l Z a0 hw [] cx b46 h46 n0 O50 A46 F46_modCount F46_elementData gg47) hZ (own_w hw 105 rfl) (own_w hw 102 rfl) (by decide) (by decide)) (g := (mkF m 21 #[.val (.ref a1), .val (.int p2)] [(.int (2 : Int32)), (.ref b46), (.ref b46), (.ref a1)])) rfl (by rw [hml]; rfl) (Steps.refl _) (a := b46) (argsL := [(.int (2 : Int32))]) (rest := [(.ref b46), (.ref a1)]) (lenOf pd_3 rfl) rfl (by show 2 * 0 + _ ≤ _; exact Nat.le_of_eq rfl) (hb hby d12_21) (fun _ _ => ⟨rfl, e46, (by decide : 2 + 1 ≤ _), (by decide : 6 + 2 ≤ _)⟩)
  dsimp only [Pt.U, Pt.locs, Pt.cells, Pt.slots] at X53 l53 y53 z53 st53 hQ53
  subst l53 y53 z53
  obtain ⟨rfl, Nq53, Kq53⟩ := hQ53
  have N54 := Fr.app N42 Nq53
  have q55 := fun t (kt : Go p e below T53 (mkF m 24 #[.val (.ref a1), .val (.int p2)] [(.ref b46), (.ref a1)]) t) => q52 t (st53.trans kt)
  have O56 : Old Z n0 T53.heap := O50.keep Kq53 (allS gg47 all0)
  have K57 : Keep h0 T53.heap [a1] := K51.trans Kq53 (allS (Or.inr sz48) all0)
  have f58 : Exa Z T53.heap a1 "com/example/pointward/pointward/pointsto/ConstraintGraph$Node" := (((f37.wr W39).ext E46).keep Kq53)
  have f59 : Fld Z T53.heap a1 "com/example/pointward/pointward/pointsto/ConstraintGraph$Node" "successors" "Ljava/util/List;" .null := (((((F2.ext E25).keep Kq32 (ninS (Nat.ne_of_lt (Nat.lt_of_lt_of_le E1.lt (Nat.le_of_eq g25.symm))) nin0)).other W39 (Or.inr (slot_ne (Or.inr (own_w hw 120 rfl)) (Or.inr (own_w hw 99 rfl)) (by decide) (t := (.object "java/util/List")) (t' := (.object "com/example/pointward/pointward/pointsto/SiteSet")) (by decide) (by decide)))).ext E46).keep Kq53 (ninS (Nat.ne_of_lt (Nat.lt_of_lt_of_le (f37.wr W39).lt (Nat.le_of_eq g46.symm))) nin0))
  obtain ⟨T60, h60, X60, e60, W60, st60⟩ := putF X53 hx hZ hown (host := "") (Or.inl (own_w hw 119 rfl)) Via.refl rfl f59 f58 (Or.inr ⟨(own_w hw 120 rfl), rfl, hnm⟩) (own_w hw 75 rfl) (ty := (.object "java/util/List")) (by decide) rfl rfl (g := (mkF m 24 #[.val (.ref a1), .val (.int p2)] [(.ref b46), (.ref a1)])) rfl rfl (hb hby d12_24)
  have q61 := fun t (kt : Go p e below T60 (mkF m 27 #[.val (.ref a1), .val (.int p2)] []) t) => q55 t (st60 t kt)
  have f62 : Fld Z h60 a1 "com/example/pointward/pointward/pointsto/ConstraintGraph$Node" "successors" "Ljava/util/List;" (.ref b46) := f59.same W60
  have N63 := Fr.snoc X60 N54 g_a1
  have O64 : Old Z n0 h60 := O56.wr W60 g_a1
  have K65 : Keep h0 h60 [a1] := K57.wr W60 (Or.inl (List.mem_of_getElem? (i := 0) rfl))
  have q66 := fun t (kt : Go p e below T60 (mkF m 28 #[.val (.ref a1), .val (.int p2)] [(.ref a1)]) t) => q61 t (by
    show Go p e below T60 (mkF m 27 #[.val (.ref a1), .val (.int p2)] []) _
    refine XS.aloadN X60.here hx rfl (hb hby d12_27) rfl rfl ?_
    exact kt)
  obtain ⟨_, _, ⟨T67, L67, k67, n67⟩, -, X67, ⟨Lc67, hQ67, l67, y67, z67⟩, st67⟩ := Jvm.LawKit.callS X60 hx (y := (⟨"java/util/List", "of", "()Ljava/util/List;"⟩ : MethodName)) hown (mvT hZ (own_w hw 121 rfl)) (mvT hZ (own_w hw 122 rfl)) (mvT hZ (own_w hw 123 rfl)) (mvT hZ (own_w hw 124 rfl)) (by decide) (backOf (W := 1) (rm16 l Z a0 hw [] cx  h60 n0 O64 ) hZ (own_w hw 124 rfl) (own_w hw 123 rfl) (by decide) (by decide)) (g := (mkF m 28 #[.val (.ref a1), .val (.int p2)] [(.ref a1)])) rfl (by rw [hml]; rfl) (argsL := []) (rest := [(.ref a1)]) (lenOf pd_4 rfl) rfl (by show 2 * 0 + _ ≤ _; exact Nat.le_of_eq rfl) (hb hby d12_28) (fun _ _ => ⟨rfl, e60, (by decide : 3 + 0 ≤ _), (by decide : 8 + 0 ≤ _)⟩)
  dsimp only [Pt.U, Pt.locs, Pt.cells, Pt.slots] at X67 l67 y67 z67 st67 hQ67
  subst l67 y67 z67
  obtain ⟨rfl, Nq67, eq67⟩ := hQ67
  have N68 := Fr.app N63 Nq67
  have q69 := fun t (kt : Go p e below T67 (mkF m 31 #[.val (.ref a1), .val (.int p2)] [(.ref w_EL), (.ref a1)]) t) => q66 t (st67 t kt)
  have f70 : Exa Z h60 a1 "com/example/pointward/pointward/pointsto/ConstraintGraph$Node" := (f58.wr W60)
  have f71 : Fld Z h60 a1 "com/example/pointward/pointward/pointsto/ConstraintGraph$Node" "listeners" "Ljava/util/List;" .null := ((((((F3.ext E25).keep Kq32 (ninS (Nat.ne_of_lt (Nat.lt_of_lt_of_le E1.lt (Nat.le_of_eq g25.symm))) nin0)).other W39 (Or.inr (slot_ne (Or.inl (own_w hw 128 rfl)) (Or.inr (own_w hw 99 rfl)) (by decide) (t := (.object "java/util/List")) (t' := (.object "com/example/pointward/pointward/pointsto/SiteSet")) (by decide) (by decide)))).ext E46).keep Kq53 (ninS (Nat.ne_of_lt (Nat.lt_of_lt_of_le (f37.wr W39).lt (Nat.le_of_eq g46.symm))) nin0)).other W60 (Or.inr (slot_ne (Or.inl (own_w hw 128 rfl)) (Or.inr (own_w hw 120 rfl)) (by decide) (t := (.object "java/util/List")) (t' := (.object "java/util/List")) (by decide) (by decide))))
  obtain ⟨T72, h72, X72, e72, W72, st72⟩ := putF X67 hx hZ hown (host := "") (Or.inl (own_w hw 127 rfl)) Via.refl eq67 f71 f70 (Or.inl (own_w hw 128 rfl)) (own_w hw 75 rfl) (ty := (.object "java/util/List")) (by decide) rfl rfl (g := (mkF m 31 #[.val (.ref a1), .val (.int p2)] [(.ref w_EL), (.ref a1)])) rfl rfl (hb hby d12_31)
  have q73 := fun t (kt : Go p e below T72 (mkF m 34 #[.val (.ref a1), .val (.int p2)] []) t) => q69 t (st72 t kt)
  have f74 : Fld Z h72 a1 "com/example/pointward/pointward/pointsto/ConstraintGraph$Node" "listeners" "Ljava/util/List;" (.ref w_EL) := f71.same W72
  have N75 := Fr.snoc X72 N68 g_a1
  have O76 : Old Z n0 h72 := O64.wr W72 g_a1
  have K77 : Keep h0 h72 [a1] := K65.wr W72 (Or.inl (List.mem_of_getElem? (i := 0) rfl))
  have f78 : Exa Z h72 a1 "com/example/pointward/pointward/pointsto/ConstraintGraph$Node" := (f70.wr W72)
  have f79 : Fld Z h72 a1 "com/example/pointward/pointward/pointsto/ConstraintGraph$Node" "id" "I" (.int (0 : Int32)) := (((((((F4.ext E25).keep Kq32 (ninS (Nat.ne_of_lt (Nat.lt_of_lt_of_le E1.lt (Nat.le_of_eq g25.symm))) nin0)).other W39 (Or.inr (slot_ne (Or.inr (own_w hw 130 rfl)) (Or.inr (own_w hw 99 rfl)) (by decide) (t := .int) (t' := (.object "com/example/pointward/pointward/pointsto/SiteSet")) (by decide) (by decide)))).ext E46).keep Kq53 (ninS (Nat.ne_of_lt (Nat.lt_of_lt_of_le (f37.wr W39).lt (Nat.le_of_eq g46.symm))) nin0)).other W60 (Or.inr (slot_ne (Or.inr (own_w hw 130 rfl)) (Or.inr (own_w hw 120 rfl)) (by decide) (t := .int) (t' := (.object "java/util/List")) (by decide) (by decide)))).other W72 (Or.inr (slot_ne (Or.inr (own_w hw 130 rfl)) (Or.inl (own_w hw 128 rfl)) (by decide) (t := .int) (t' := (.object "java/util/List")) (by decide) (by decide))))
  have q80 := fun t (kt : Go p e below T72 (mkF m 36 #[.val (.ref a1), .val (.int p2)] [(.int p2), (.ref a1)]) t) => q73 t (by
    show Go p e below T72 (mkF m 34 #[.val (.ref a1), .val (.int p2)] []) _
    refine XS.aloadN X72.here hx rfl (hb hby d12_34) rfl rfl ?_
    show Go p e below T72 (mkF m 35 #[.val (.ref a1), .val (.int p2)] [(.ref a1)]) _
    refine XS.iloadN X72.here hx rfl (hb hby d12_35) rfl ?_
    exact kt)
  obtain ⟨T81, h81, X81, e81, W81, st81⟩ := putF X72 hx hZ hown (host := "") (Or.inl (own_w hw 129 rfl)) Via.refl e72 f79 f78 (Or.inr ⟨(own_w hw 130 rfl), rfl, hnm⟩) (own_w hw 75 rfl) (ty := .int) (by decide) rfl rfl (g := (mkF m 36 #[.val (.ref a1), .val (.int p2)] [(.int p2), (.ref a1)])) rfl rfl (hb hby d12_36)
  have q82 := fun t (kt : Go p e below T81 (mkF m 39 #[.val (.ref a1), .val (.int p2)] []) t) => q80 t (st81 t kt)
  have f83 : Fld Z h81 a1 "com/example/pointward/pointward/pointsto/ConstraintGraph$Node" "id" "I" (.int p2) := f79.same W81
  have N84 := Fr.snoc X81 N75 g_a1
  have O85 : Old Z n0 h81 := O76.wr W81 g_a1
  have K86 : Keep h0 h81 [a1] := K77.wr W81 (Or.inl (List.mem_of_getElem? (i := 0) rfl))
  exact ⟨none, T81, _, _, _, _, X81, by decide, by decide, fun _ => rfl, q82, fun fs hr => X81.returnOut hx hret (hb hby d12_39) hr, by rw [e81]; exact ⟨rfl, N84, K86⟩⟩
theorem ef_11_R (m : MethodId) (x0 : Addr) : entryFrame m #[(.ref x0)] 1 = mkF m 0 #[.val (.ref x0)] [] := by first | (simp [entryFrame, mkF, argsToLocals, Value.category]; done) | rfl
theorem pn_11 : plainName "com/example/pointward/pointward/pointsto/ConstraintGraph" = true := by first | (simp [plainName, overriddenIn]; done) | decide +kernel
theorem d11_0 : decode prog_13_method_2_code 0 = .ok (.new 26, 3) := by decide +kernel
theorem d11_3 : decode prog_13_method_2_code 3 = .ok (.dup, 1) := by decide +kernel
theorem d11_4 : decode prog_13_method_2_code 4 = .ok (.aload_n 0, 1) := by decide +kernel
theorem d11_5 : decode prog_13_method_2_code 5 = .ok (.dup, 1) := by decide +kernel
theorem d11_6 : decode prog_13_method_2_code 6 = .ok (.getfield 28, 3) := by decide +kernel
theorem d11_9 : decode prog_13_method_2_code 9 = .ok (.dup_x1, 1) := by decide +kernel
theorem d11_10 : decode prog_13_method_2_code 10 = .ok (.iconst 1, 1) := by decide +kernel
theorem d11_11 : decode prog_13_method_2_code 11 = .ok (.iadd, 1) := by decide +kernel
theorem d11_12 : decode prog_13_method_2_code 12 = .ok (.putfield 28, 3) := by decide +kernel
theorem d11_15 : decode prog_13_method_2_code 15 = .ok (.invokespecial 32, 3) := by decide +kernel
theorem d11_18 : decode prog_13_method_2_code 18 = .ok (.areturn, 1) := by decide +kernel
def Q_rm11 (Z : State) (a1 : Addr) (tl : Addr) (z : Int32) (w_NB : Addr) (w_NW : Addr) (w_EL : Addr) (h0 : Heap) (n0 : Nat) (v : Option Value) (h : Heap) (L : List Loc) : Prop := ∃ (b : Addr), v = some (.ref b) ∧ Fr n0 L ∧ Keep h0 h [a1] ∧ h0.size ≤ b ∧ Fld Z h a1 "com/example/pointward/pointward/pointsto/ConstraintGraph" "fields" "Lcom/example/pointward/pointward/pointsto/LongTable;" (.ref tl) ∧ Fld Z h a1 "com/example/pointward/pointward/pointsto/ConstraintGraph" "nodeCount" "I" (.int (z + (1 : Int32))) ∧ Exa Z h b "com/example/pointward/pointward/pointsto/ConstraintGraph$Node"
theorem rm11 (l : Launch) (Z : State) (a0 : Array Value) (hw : ∀ d ∈ tables_1, d.before a0 Z = true) (ws : List Jvm.Cond) {w_NB : Addr} {w_NW : Addr} {w_EL : Addr} (cx : Cx Z w_NB w_NW w_EL) (a1 : Addr) (tl : Addr) (z : Int32) (h0 : Heap) (n0 : Nat) (O0 : Old Z n0 h0) (E1 : Exa Z h0 a1 "com/example/pointward/pointward/pointsto/ConstraintGraph") (F1 : Fld Z h0 a1 "com/example/pointward/pointward/pointsto/ConstraintGraph" "fields" "Lcom/example/pointward/pointward/pointsto/LongTable;" (.ref tl)) (F2 : Fld Z h0 a1 "com/example/pointward/pointward/pointsto/ConstraintGraph" "nodeCount" "I" (.int z)) (g_a1 : n0 ≤ a1) :
    OwnMet l (⟨"com/example/pointward/pointward/pointsto/ConstraintGraph", "newNode", "()Lcom/example/pointward/pointward/pointsto/ConstraintGraph$Node;"⟩ : MethodName) (Jvm.Cond.code (⟨"com/example/pointward/pointward/pointsto/ConstraintGraph", "newNode", "()Lcom/example/pointward/pointward/pointsto/ConstraintGraph$Node;"⟩ : MethodName) prog_13_method_2_code 1 (some (.object "com/example/pointward/pointward/pointsto/ConstraintGraph$Node")) :: ws) (own_R 5 4 13 65) #[(.ref a1)] Z h0 (Q_rm11 Z a1 tl z w_NB w_NW w_EL h0 n0) := by
  refine own_body (plainFor_of_name pn_11) hisR fun p e s m below meth c s₁ hx hby hml hown hnm hret hZ X0 e0 => ?_
  have N0 := Fr.nil n0
  have K0 : Keep h0 h0 [a1] := Keep.refl _ _
  have pre0 : ∀ t, Go p e below s₁ (mkF m 0 #[.val (.ref a1)] []) t → Go p e below s₁ (entryFrame m #[(.ref a1)] 1) t := fun t k => castTop (ef_11_R m a1) k
  obtain ⟨T21, h21, X21, e21, E21, A21, D21, U21, st21⟩ := newO X0 hx hZ hown (own_w hw 74 rfl) (own_w hw 75 rfl) (own_w hw 76 rfl) e0 (g := (mkF m 0 #[.val (.ref a1)] [])) rfl (hb hby d11_0) (by decide) (by decide)
  obtain ⟨b21, g21⟩ : ∃ z, z = h0.size := ⟨_, rfl⟩
  rw [← g21] at A21 D21 st21
  have gg22 : n0 ≤ b21 := Nat.le_trans (O0.1 ▸ O0.2.1) (Nat.le_of_eq g21.symm)
  have sz23 : h0.size ≤ b21 := Nat.le_trans K0.1 (Nat.le_of_eq g21.symm)
  have q24 := fun t (kt : Go p e below T21 (mkF m 3 #[.val (.ref a1)] [(.ref b21)]) t) => pre0 t (st21 t kt)
  have O25 : Old Z n0 h21 := O0.ext E21
  have K26 : Keep h0 h21 [a1] := K0.ext E21
  have F21_sites : Fld Z h21 b21 "com/example/pointward/pointward/pointsto/ConstraintGraph$Node" "sites" "Lcom/example/pointward/pointward/pointsto/SiteSet;" .null := D21 (Or.inr (own_w hw 99 rfl)) (ty := (.object "com/example/pointward/pointward/pointsto/SiteSet")) (by decide)
  have F21_successors : Fld Z h21 b21 "com/example/pointward/pointward/pointsto/ConstraintGraph$Node" "successors" "Ljava/util/List;" .null := D21 (Or.inr (own_w hw 120 rfl)) (ty := (.object "java/util/List")) (by decide)
  have F21_listeners : Fld Z h21 b21 "com/example/pointward/pointward/pointsto/ConstraintGraph$Node" "listeners" "Ljava/util/List;" .null := D21 (Or.inl (own_w hw 128 rfl)) (ty := (.object "java/util/List")) (by decide)
  have F21_id : Fld Z h21 b21 "com/example/pointward/pointward/pointsto/ConstraintGraph$Node" "id" "I" (.int (0 : Int32)) := D21 (Or.inr (own_w hw 130 rfl)) (ty := .int) (by decide)
  have f27 : Fld Z h21 a1 "com/example/pointward/pointward/pointsto/ConstraintGraph" "nodeCount" "I" (.int z) := (F2.ext E21)
  have q28 := fun t (kt : Go p e below T21 (mkF m 6 #[.val (.ref a1)] [(.ref a1), (.ref a1), (.ref b21), (.ref b21)]) t) => q24 t (by
    show Go p e below T21 (mkF m 3 #[.val (.ref a1)] [(.ref b21)]) _
    refine XS.dup X21.here hx rfl (hb hby d11_3) rfl rfl ?_
    show Go p e below T21 (mkF m 4 #[.val (.ref a1)] [(.ref b21), (.ref b21)]) _
    refine XS.aloadN X21.here hx rfl (hb hby d11_4) rfl rfl ?_
    show Go p e below T21 (mkF m 5 #[.val (.ref a1)] [(.ref a1), (.ref b21), (.ref b21)]) _
    refine XS.dup X21.here hx rfl (hb hby d11_5) rfl rfl ?_
    exact kt)
  obtain ⟨T29, X29, e29, st29⟩ := getF X21 hx hZ hown (host := "") (Or.inl (own_w hw 77 rfl)) Via.refl e21 f27 (g := (mkF m 6 #[.val (.ref a1)] [(.ref a1), (.ref a1), (.ref b21), (.ref b21)])) rfl rfl (hb hby d11_6)
  have q30 := fun t (kt : Go p e below T29 (mkF m 9 #[.val (.ref a1)] [(.int z), (.ref a1), (.ref b21), (.ref b21)]) t) => q28 t (st29 t kt)
  have f31 : Exa Z h21 a1 "com/example/pointward/pointward/pointsto/ConstraintGraph" := (E1.ext E21)
  have q32 := fun t (kt : Go p e below T29 (mkF m 12 #[.val (.ref a1)] [(.int (z + (1 : Int32))), (.ref a1), (.int z), (.ref b21), (.ref b21)]) t) => q30 t (by
    show Go p e below T29 (mkF m 9 #[.val (.ref a1)] [(.int z), (.ref a1), (.ref b21), (.ref b21)]) _
    refine XS.dupX1 X29.here hx rfl (hb hby d11_9) rfl rfl rfl ?_
    show Go p e below T29 (mkF m 10 #[.val (.ref a1)] [(.int z), (.ref a1), (.int z), (.ref b21), (.ref b21)]) _
    refine XS.iconst X29.here hx rfl (hb hby d11_10) ?_
    show Go p e below T29 (mkF m 11 #[.val (.ref a1)] [(.int (1 : Int32)), (.int z), (.ref a1), (.int z), (.ref b21), (.ref b21)]) _
    refine XS.iadd X29.here hx rfl (hb hby d11_11) rfl ?_
    exact kt)
  obtain ⟨T33, h33, X33, e33, W33, st33⟩ := putF X29 hx hZ hown (host := "") (Or.inl (own_w hw 77 rfl)) Via.refl e29 f27 f31 (Or.inl (own_w hw 78 rfl)) (own_w hw 1 rfl) (ty := .int) (by decide) rfl rfl (g := (mkF m 12 #[.val (.ref a1)] [(.int (z + (1 : Int32))), (.ref a1), (.int z), (.ref b21), (.ref b21)])) rfl rfl (hb hby d11_12)
  have q34 := fun t (kt : Go p e below T33 (mkF m 15 #[.val (.ref a1)] [(.int z), (.ref b21), (.ref b21)]) t) => q32 t (st33 t kt)
  have f35 : Fld Z h33 a1 "com/example/pointward/pointward/pointsto/ConstraintGraph" "nodeCount" "I" (.int (z + (1 : Int32))) := f27.same W33
  have N36 := Fr.snoc X33 N0 g_a1
  have O37 : Old Z n0 h33 := O25.wr W33 g_a1
  have K38 : Keep h0 h33 [a1] := K26.wr W33 (Or.inl (List.mem_of_getElem? (i := 0) rfl))
  have f39 : Exa Z h33 b21 "com/example/pointward/pointward/pointsto/ConstraintGraph$Node" := (A21.wr W33)
  have f40 : Fld Z h33 b21 "com/example/pointward/pointward/pointsto/ConstraintGraph$Node" "sites" "Lcom/example/pointward/pointward/pointsto/SiteSet;" .null := (F21_sites.other W33 (Or.inl (Ne.symm (Nat.ne_of_lt (Nat.lt_of_lt_of_le E1.lt (Nat.le_of_eq g21.symm))))))
  have f41 : Fld Z h33 b21 "com/example/pointward/pointward/pointsto/ConstraintGraph$Node" "successors" "Ljava/util/List;" .null := (F21_successors.other W33 (Or.inl (Ne.symm (Nat.ne_of_lt (Nat.lt_of_lt_of_le E1.lt (Nat.le_of_eq g21.symm))))))
  have f42 : Fld Z h33 b21 "com/example/pointward/pointward/pointsto/ConstraintGraph$Node" "listeners" "Ljava/util/List;" .null := (F21_listeners.other W33 (Or.inl (Ne.symm (Nat.ne_of_lt (Nat.lt_of_lt_of_le E1.lt (Nat.le_of_eq g21.symm))))))
  have f43 : Fld Z h33 b21 "com/example/pointward/pointward/pointsto/ConstraintGraph$Node" "id" "I" (.int (0 : Int32)) := (F21_id.other W33 (Or.inl (Ne.symm (Nat.ne_of_lt (Nat.lt_of_lt_of_le E1.lt (Nat.le_of_eq g21.symm))))))
  obtain ⟨_, _, ⟨T44, L44, k44, n44⟩, -, X44, ⟨Lc44, hQ44, l44, y44, z44⟩, st44⟩ := own_specialRef X33 hx hZ (y := (⟨"com/example/pointward/pointward/pointsto/ConstraintGraph$Node", "<init>", "(I)V"⟩ : MethodName)) rfl hown (own_w hw 79 rfl) (own_w hw 80 rfl) (own_w hw 81 rfl) (by decide) (backOf (W := 1) (rm12 l Z a0 hw [] cx b21 z h33 n0 O37 f39 f40 f41 f42 f43 gg22) hZ (own_w hw 81 rfl) (own_w hw 76 rfl) (by decide) (by decide)) (g := (mkF m 15 #[.val (.ref a1)] [(.int z), (.ref b21), (.ref b21)])) rfl (by rw [hml]; rfl) (Steps.refl _) (a := b21) (argsL := [(.int z)]) (rest := [(.ref b21)]) (lenOf pd_3 rfl) rfl (by show 2 * 0 + _ ≤ _; exact Nat.le_of_eq rfl) (hb hby d11_15) (fun _ _ => ⟨rfl, e33, (by decide : 1 + 3 ≤ _), (by decide : 5 + 8 ≤ _)⟩)
  dsimp only [Pt.U, Pt.locs, Pt.cells, Pt.slots] at X44 l44 y44 z44 st44 hQ44
  subst l44 y44 z44
  obtain ⟨rfl, Nq44, Kq44⟩ := hQ44
  have N45 := Fr.app N36 Nq44
  have q46 := fun t (kt : Go p e below T44 (mkF m 18 #[.val (.ref a1)] [(.ref b21)]) t) => q34 t (st44.trans kt)
  have O47 : Old Z n0 T44.heap := O37.keep Kq44 (allS gg22 all0)
  have K48 : Keep h0 T44.heap [a1] := K38.trans Kq44 (allS (Or.inr sz23) all0)
  have f49 : Fld Z T44.heap a1 "com/example/pointward/pointward/pointsto/ConstraintGraph" "fields" "Lcom/example/pointward/pointward/pointsto/LongTable;" (.ref tl) := (((F1.ext E21).other W33 (Or.inr (slot_ne (Or.inr (own_w hw 42 rfl)) (Or.inl (own_w hw 78 rfl)) (by decide) (t := (.object "com/example/pointward/pointward/pointsto/LongTable")) (t' := .int) (by decide) (by decide)))).keep Kq44 (ninS (Nat.ne_of_lt (Nat.lt_of_lt_of_le E1.lt (Nat.le_of_eq g21.symm))) nin0))
  have f50 : Fld Z T44.heap a1 "com/example/pointward/pointward/pointsto/ConstraintGraph" "nodeCount" "I" (.int (z + (1 : Int32))) := (f35.keep Kq44 (ninS (Nat.ne_of_lt (Nat.lt_of_lt_of_le E1.lt (Nat.le_of_eq g21.symm))) nin0))
  have f51 : Exa Z T44.heap b21 "com/example/pointward/pointward/pointsto/ConstraintGraph$Node" := (f39.keep Kq44)
  exact ⟨some (.ref b21), T44, _, _, _, _, X44, by decide, by decide, nofun, q46, fun fs hr => retOut X44 hx hret rfl (Or.inr (Or.inr (Or.inr (Or.inr ⟨rfl, rfl, rfl⟩)))) (hb hby d11_18) hr, ⟨b21, rfl, N45, K48, sz23, f49, f50, f51⟩⟩
theorem own_stepM {M M' : Int64 → Option Addr} {k0 : Int64} {b : Addr} {n n' : Nat} {P : Prop} (h : M' k0 = some b ∧ ((M k0 = some b ∧ M' = M ∧ n' = n) ∨ (M k0 = none ∧ M' = own_upM M k0 b ∧ n' = n + 1 ∧ P))) : (∀ k, M' k = if k = k0 then some b else M k) ∧ n' ≤ n + 1 := by
  obtain ⟨h1, ⟨h2, rfl, rfl⟩ | ⟨h2, rfl, rfl, -⟩⟩ := h
  · refine ⟨fun k => ?_, Nat.le_succ _⟩
    by_cases e : k = k0
    · rw [if_pos e, e]; exact h2
    · rw [if_neg e]
  · exact ⟨fun k => rfl, Nat.le_refl _⟩
theorem own_q1 {M M' : Int64 → Option Addr} {m : Int32} {k0 : Int64} {b : Addr} (hm : m = 0 ∨ m = 1) (hc : ¬ m = 0) (h : ∀ k, M' k = if k = k0 then some b else M k) : ∀ k, M' k = if m = 1 ∧ k = k0 then some b else M k := fun k => by
  rw [h k, hm.resolve_left hc]; simp
theorem own_q0 {M : Int64 → Option Addr} {m : Int32} {k0 : Int64} {o : Option Addr} (hm : m = 0) : ∀ k, M k = if m = 1 ∧ k = k0 then o else M k := fun k => by
  rw [if_neg]; rintro ⟨e, -⟩; rw [hm] at e; exact absurd e (by decide)
theorem own_nn (p : Int32) : ¬ (p &&& (2147483647 : Int32)) < 0 := by
  have h1 := c_mask p 2147483647 31 (by decide) (by decide)
  rw [Int32.lt_iff_toInt_lt, Int32.toInt_zero]; omega
theorem own_nn3 {r a b d : Int32} (h : r = a &&& (2147483647 : Int32) ∨ r = b &&& (2147483647 : Int32) ∨ r = d &&& (2147483647 : Int32)) : ¬ r < 0 := by
  rcases h with rfl | rfl | rfl <;> exact own_nn _
theorem own_exp {M1 M2 : Int64 → Option Addr} {mA mB p1 p3 fA fB s f : Int32} {oa ob : Option Addr} (H1 : ∀ k, M1 k = if mA = 1 ∧ k = own_key p1 fA then oa else none) (H2 : ∀ k, M2 k = if mB = 1 ∧ k = own_key p3 fB then ob else M1 k)
    (hA : mA = 0 ∨ mA = 1) (hB : mB = 0 ∨ mB = 1) (hf : ¬ f < 0) (hfA : ¬ fA < 0) (hfB : ¬ fB < 0) : M2 (own_key s f) = if ¬ mB = 0 ∧ s = p3 ∧ f = fB then ob else if ¬ mA = 0 ∧ s = p1 ∧ f = fA then oa else none := by
  have n1 : ∀ m : Int32, m = 0 ∨ m = 1 → (m = 1 ↔ ¬ m = 0) := fun m h => by rcases h with rfl | rfl <;> decide
  have n2 : ∀ s' f' : Int32, ¬ f' < 0 → (own_key s f = own_key s' f' ↔ s = s' ∧ f = f') := fun s' f' h => ⟨own_key_inj hf h, fun ⟨a, b⟩ => by rw [a, b]⟩
  rw [H2, H1]
  simp only [n1 mA hA, n1 mB hB, n2 p3 fB hfB, n2 p1 fA hfA]
theorem own_frv {o : Option Addr} {N b : Nat} (h : ∀ x, o = some x → x < N) (hb : N ≤ b) : ¬ (Value.ref b = own_val o) := by
  cases o with
  | none => intro e; cases e
  | some y => intro e; cases e; exact absurd (h b rfl) (Nat.not_lt.mpr hb)
theorem own_same {M M' : Int64 → Option Addr} {k0 : Int64} {b x : Addr} {n n' : Nat} {P : Prop} {o : Option Addr} (h : M' k0 = some b ∧ ((M k0 = some b ∧ M' = M ∧ n' = n) ∨ (M k0 = none ∧ M' = own_upM M k0 b ∧ n' = n + 1 ∧ P))) (he : o = M k0) (ho : o = some x) : b = x := by
  rcases h.2 with ⟨h2, -⟩ | ⟨h2, -⟩
  · exact Option.some.inj (h2.symm.trans (he.symm.trans ho))
  · cases (h2.symm.trans (he.symm.trans ho))
theorem own_new {M M' : Int64 → Option Addr} {k0 : Int64} {b : Addr} {n n' : Nat} {P : Prop} {o : Option Addr} (h : M' k0 = some b ∧ ((M k0 = some b ∧ M' = M ∧ n' = n) ∨ (M k0 = none ∧ M' = own_upM M k0 b ∧ n' = n + 1 ∧ P))) (he : o = M k0) (ho : o = none) : P := by
  rcases h.2 with ⟨h2, -⟩ | ⟨-, -, -, h2⟩
  · cases (h2.symm.trans (he.symm.trans ho))
  · exact h2
theorem ef_10_RII (m : MethodId) (x0 : Addr) (x1 : Int32) (x2 : Int32) : entryFrame m #[(.ref x0), (.int x1), (.int x2)] 6 = mkF m 0 #[.val (.ref x0), .val (.int x1), .val (.int x2), .unset, .unset, .unset] [] := by first | (simp [entryFrame, mkF, argsToLocals, Value.category]; done) | rfl
theorem pn_10 : plainName "com/example/pointward/pointward/pointsto/ConstraintGraph" = true := by first | (simp [plainName, overriddenIn]; done) | decide +kernel
theorem d10_0 : decode prog_13_method_3_code 0 = .ok (.iload_n 1, 1) := by decide +kernel
theorem d10_1 : decode prog_13_method_3_code 1 = .ok (.i2l, 1) := by decide +kernel
theorem d10_2 : decode prog_13_method_3_code 2 = .ok (.bipush 32, 2) := by decide +kernel
theorem d10_4 : decode prog_13_method_3_code 4 = .ok (.lshl, 1) := by decide +kernel
theorem d10_5 : decode prog_13_method_3_code 5 = .ok (.iload_n 2, 1) := by decide +kernel
theorem d10_6 : decode prog_13_method_3_code 6 = .ok (.i2l, 1) := by decide +kernel
theorem d10_7 : decode prog_13_method_3_code 7 = .ok (.lor, 1) := by decide +kernel
theorem d10_8 : decode prog_13_method_3_code 8 = .ok (.lstore_n 3, 1) := by decide +kernel
theorem d10_9 : decode prog_13_method_3_code 9 = .ok (.aload_n 0, 1) := by decide +kernel
theorem d10_10 : decode prog_13_method_3_code 10 = .ok (.getfield 19, 3) := by decide +kernel
theorem d10_13 : decode prog_13_method_3_code 13 = .ok (.lload_n 3, 1) := by decide +kernel
theorem d10_14 : decode prog_13_method_3_code 14 = .ok (.invokevirtual 35, 3) := by decide +kernel
theorem d10_17 : decode prog_13_method_3_code 17 = .ok (.checkcast 26, 3) := by decide +kernel
theorem d10_20 : decode prog_13_method_3_code 20 = .ok (.astore 5, 2) := by decide +kernel
theorem d10_22 : decode prog_13_method_3_code 22 = .ok (.aload 5, 2) := by decide +kernel
theorem d10_24 : decode prog_13_method_3_code 24 = .ok (.ifnonnull 19, 3) := by decide +kernel
theorem d10_27 : decode prog_13_method_3_code 27 = .ok (.aload_n 0, 1) := by decide +kernel
theorem d10_28 : decode prog_13_method_3_code 28 = .ok (.invokevirtual 39, 3) := by decide +kernel
theorem pd_5 : parseMethodDescriptor "()Lcom/example/pointward/pointward/pointsto/ConstraintGraph$Node;" = some ⟨[], some (.object "com/example/pointward/pointward/pointsto/ConstraintGraph$Node")⟩ := by decide +kernel
theorem d10_31 : decode prog_13_method_3_code 31 = .ok (.astore 5, 2) := by decide +kernel
theorem d10_33 : decode prog_13_method_3_code 33 = .ok (.aload_n 0, 1) := by decide +kernel
theorem d10_34 : decode prog_13_method_3_code 34 = .ok (.getfield 19, 3) := by decide +kernel
theorem d10_37 : decode prog_13_method_3_code 37 = .ok (.lload_n 3, 1) := by decide +kernel
theorem d10_38 : decode prog_13_method_3_code 38 = .ok (.aload 5, 2) := by decide +kernel
theorem d10_40 : decode prog_13_method_3_code 40 = .ok (.invokevirtual 43, 3) := by decide +kernel
theorem pd_6 : parseMethodDescriptor "(JLjava/lang/Object;)V" = some ⟨[.long, (.object "java/lang/Object")], none⟩ := by decide +kernel
theorem d10_43 : decode prog_13_method_3_code 43 = .ok (.aload 5, 2) := by decide +kernel
theorem d10_45 : decode prog_13_method_3_code 45 = .ok (.areturn, 1) := by decide +kernel
def Q_rm10 (Z : State) (a1 : Addr) (p2 : Int32) (p3 : Int32) (tl : Addr) (ka : Addr) (va : Addr) (M : Int64 → Option Addr) (n : Nat) (z : Int32) (w_NB : Addr) (w_NW : Addr) (w_EL : Addr) (h0 : Heap) (n0 : Nat) (v : Option Value) (h : Heap) (L : List Loc) : Prop := ∃ (b : Addr) (M' : Int64 → Option Addr) (n' : Nat) (z' : Int32), v = some (.ref b) ∧ Fr n0 L ∧ Keep h0 h [a1, tl, ka, va] ∧ Fld Z h a1 "com/example/pointward/pointward/pointsto/ConstraintGraph" "fields" "Lcom/example/pointward/pointward/pointsto/LongTable;" (.ref tl) ∧ Fld Z h a1 "com/example/pointward/pointward/pointsto/ConstraintGraph" "nodeCount" "I" (.int z') ∧ Tb Z h tl ka va M' n' ∧ Exa Z h b "com/example/pointward/pointward/pointsto/ConstraintGraph$Node" ∧ (M' (own_key p2 p3) = some b ∧ ((M (own_key p2 p3) = some b ∧ M' = M ∧ n' = n) ∨ (M (own_key p2 p3) = none ∧ M' = own_upM M (own_key p2 p3) b ∧ n' = n + 1 ∧ h0.size ≤ b)))
theorem rm10 (l : Launch) (Z : State) (a0 : Array Value) (hw : ∀ d ∈ tables_1, d.before a0 Z = true) (ws : List Jvm.Cond) {w_NB : Addr} {w_NW : Addr} {w_EL : Addr} (cx : Cx Z w_NB w_NW w_EL) (a1 : Addr) (p2 : Int32) (p3 : Int32) (tl : Addr) (ka : Addr) (va : Addr) (M : Int64 → Option Addr) (n : Nat) (z : Int32) (h0 : Heap) (n0 : Nat) (O0 : Old Z n0 h0) (E1 : Exa Z h0 a1 "com/example/pointward/pointward/pointsto/ConstraintGraph") (F1 : Fld Z h0 a1 "com/example/pointward/pointward/pointsto/ConstraintGraph" "fields" "Lcom/example/pointward/pointward/pointsto/LongTable;" (.ref tl)) (F2 : Fld Z h0 a1 "com/example/pointward/pointward/pointsto/ConstraintGraph" "nodeCount" "I" (.int z)) (T1 : Tb Z h0 tl ka va M n) (g_a1 : n0 ≤ a1) (g_tl : n0 ≤ tl) (g_ka : n0 ≤ ka) (g_va : n0 ≤ va) (hn : n ≤ 2) (h1 : a1 ≠ tl) (h2 : a1 ≠ ka) (h3 : a1 ≠ va) :
    OwnMet l (⟨"com/example/pointward/pointward/pointsto/ConstraintGraph", "field", "(II)Lcom/example/pointward/pointward/pointsto/ConstraintGraph$Node;"⟩ : MethodName) (Jvm.Cond.code (⟨"com/example/pointward/pointward/pointsto/ConstraintGraph", "field", "(II)Lcom/example/pointward/pointward/pointsto/ConstraintGraph$Node;"⟩ : MethodName) prog_13_method_3_code 6 (some (.object "com/example/pointward/pointward/pointsto/ConstraintGraph$Node")) :: ws) (own_R 6 4 13 77) #[(.ref a1), (.int p2), (.int p3)] Z h0 (Q_rm10 Z a1 p2 p3 tl ka va M n z w_NB w_NW w_EL h0 n0) := by
  refine own_body (plainFor_of_name pn_10) hisR fun p e s m below meth c s₁ hx hby hml hown hnm hret hZ X0 e0 => ?_
  have N0 := Fr.nil n0
  have K0 : Keep h0 h0 [a1, tl, ka, va] := Keep.refl _ _
  have pre0 : ∀ t, Go p e below s₁ (mkF m 0 #[.val (.ref a1), .val (.int p2), .val (.int p3), .unset, .unset, .unset] []) t → Go p e below s₁ (entryFrame m #[(.ref a1), (.int p2), (.int p3)] 6) t := fun t k => castTop (ef_10_RII m a1 p2 p3) k
  have q21 := fun t (kt : Go p e below s₁ (mkF m 8 #[.val (.ref a1), .val (.int p2), .val (.int p3), .unset, .unset, .unset] [(.long (((p2.toInt64) <<< ((32 : Int32) &&& 0x3f).toInt64) ||| (p3.toInt64)))]) t) => pre0 t (by
    show Go p e below s₁ (mkF m 0 #[.val (.ref a1), .val (.int p2), .val (.int p3), .unset, .unset, .unset] []) _
    refine XS.iloadN X0.here hx rfl (hb hby d10_0) rfl ?_
    show Go p e below s₁ (mkF m 1 #[.val (.ref a1), .val (.int p2), .val (.int p3), .unset, .unset, .unset] [(.int p2)]) _
    refine XS.i2l X0.here hx rfl (hb hby d10_1) rfl ?_
    show Go p e below s₁ (mkF m 2 #[.val (.ref a1), .val (.int p2), .val (.int p3), .unset, .unset, .unset] [(.long (p2.toInt64))]) _
    refine XS.bipush X0.here hx rfl (hb hby d10_2) ?_
    show Go p e below s₁ (mkF m 4 #[.val (.ref a1), .val (.int p2), .val (.int p3), .unset, .unset, .unset] [(.int (32 : Int32)), (.long (p2.toInt64))]) _
    refine XS.lshl X0.here hx rfl (hb hby d10_4) rfl ?_
    show Go p e below s₁ (mkF m 5 #[.val (.ref a1), .val (.int p2), .val (.int p3), .unset, .unset, .unset] [(.long ((p2.toInt64) <<< ((32 : Int32) &&& 0x3f).toInt64))]) _
    refine XS.iloadN X0.here hx rfl (hb hby d10_5) rfl ?_
    show Go p e below s₁ (mkF m 6 #[.val (.ref a1), .val (.int p2), .val (.int p3), .unset, .unset, .unset] [(.int p3), (.long ((p2.toInt64) <<< ((32 : Int32) &&& 0x3f).toInt64))]) _
    refine XS.i2l X0.here hx rfl (hb hby d10_6) rfl ?_
    show Go p e below s₁ (mkF m 7 #[.val (.ref a1), .val (.int p2), .val (.int p3), .unset, .unset, .unset] [(.long (p3.toInt64)), (.long ((p2.toInt64) <<< ((32 : Int32) &&& 0x3f).toInt64))]) _
    refine XS.lor X0.here hx rfl (hb hby d10_7) rfl ?_
    exact kt)
  have q22 := fun t (kt : Go p e below s₁ (mkF m 8 #[.val (.ref a1), .val (.int p2), .val (.int p3), .unset, .unset, .unset] [(.long (own_key p2 p3))]) t) => q21 t (by rw [(show (((p2.toInt64) <<< ((32 : Int32) &&& 0x3f).toInt64) ||| (p3.toInt64)) = (own_key p2 p3) from rfl)]; exact kt)
  have q23 := fun t (kt : Go p e below s₁ (mkF m 10 #[.val (.ref a1), .val (.int p2), .val (.int p3), .val (.long (own_key p2 p3)), .second, .unset] [(.ref a1)]) t) => q22 t (by
    show Go p e below s₁ (mkF m 8 #[.val (.ref a1), .val (.int p2), .val (.int p3), .unset, .unset, .unset] [(.long (own_key p2 p3))]) _
    refine XS.lstoreN X0.here hx rfl (hb hby d10_8) rfl (l' := #[.val (.ref a1), .val (.int p2), .val (.int p3), .val (.long (own_key p2 p3)), .second, .unset]) rfl ?_
    show Go p e below s₁ (mkF m 9 #[.val (.ref a1), .val (.int p2), .val (.int p3), .val (.long (own_key p2 p3)), .second, .unset] []) _
    refine XS.aloadN X0.here hx rfl (hb hby d10_9) rfl rfl ?_
    exact kt)
  obtain ⟨T24, X24, e24, st24⟩ := getF X0 hx hZ hown (host := "") (Or.inl (own_w hw 41 rfl)) Via.refl e0 F1 (g := (mkF m 10 #[.val (.ref a1), .val (.int p2), .val (.int p3), .val (.long (own_key p2 p3)), .second, .unset] [(.ref a1)])) rfl rfl (hb hby d10_10)
  have q25 := fun t (kt : Go p e below T24 (mkF m 13 #[.val (.ref a1), .val (.int p2), .val (.int p3), .val (.long (own_key p2 p3)), .second, .unset] [(.ref tl)]) t) => q23 t (st24 t kt)
  have q26 := fun t (kt : Go p e below T24 (mkF m 14 #[.val (.ref a1), .val (.int p2), .val (.int p3), .val (.long (own_key p2 p3)), .second, .unset] [(.long (own_key p2 p3)), (.ref tl)]) t) => q25 t (by
    show Go p e below T24 (mkF m 13 #[.val (.ref a1), .val (.int p2), .val (.int p3), .val (.long (own_key p2 p3)), .second, .unset] [(.ref tl)]) _
    refine XS.lloadN X24.here hx rfl (hb hby d10_13) rfl ?_
    exact kt)
  obtain ⟨cq28, kq28, q28a, q28b, q28c⟩ := isOf hZ e24 T1.exa
  obtain ⟨_, _, ⟨T27, L27, k27, n27⟩, -, X27, ⟨Lc27, hQ27, l27, y27, z27⟩, st27⟩ := X24.virtualBack hx (y := (⟨"com/example/pointward/pointward/pointsto/LongTable", "get", "(J)Ljava/lang/Object;"⟩ : MethodName)) (z := (⟨"com/example/pointward/pointward/pointsto/LongTable", "get", "(J)Ljava/lang/Object;"⟩ : MethodName)) hown (mvT hZ (own_w hw 55 rfl)) (mvT hZ (own_w hw 56 rfl)) (notFace_of_selects (args := #[]) (mvT hZ (own_w hw 58 rfl))) (mvT hZ (own_w hw 58 rfl)) (mvT hZ (own_w hw 57 rfl)) (by decide) (backOf (W := 0) (rm8 l Z a0 hw [] cx tl (own_key p2 p3) ka va M n h0 n0 O0 T1 (by first | assumption | decide | omega : n ≤ 3)) hZ (own_w hw 59 rfl) (own_w hw 30 rfl) (by decide) (by decide)) q28a q28c (g := (mkF m 14 #[.val (.ref a1), .val (.int p2), .val (.int p3), .val (.long (own_key p2 p3)), .second, .unset] [(.long (own_key p2 p3)), (.ref tl)])) rfl (by rw [hml]; rfl) (Steps.refl _) (argsL := [(.long (own_key p2 p3))]) (rest := []) (lenOf pd_2 rfl) rfl (by show 2 * 0 + _ ≤ _; exact Nat.le_of_eq rfl) (hb hby d10_14) (fun _ _ => ⟨rfl, e24, (by decide : 0 + 0 ≤ _), (by decide : 0 + 0 ≤ _)⟩)
  dsimp only [Pt.U, Pt.locs, Pt.cells, Pt.slots] at X27 l27 y27 z27 st27 hQ27
  subst l27 y27 z27
  obtain ⟨rfl, Nq27, eq27⟩ := hQ27
  have N29 := Fr.app N0 Nq27
  have q30 := fun t (kt : Go p e below T27 (mkF m 17 #[.val (.ref a1), .val (.int p2), .val (.int p3), .val (.long (own_key p2 p3)), .second, .unset] [(own_val (M (own_key p2 p3)))]) t) => q26 t (st27.trans kt)
  rcases own_opt (M (own_key p2 p3)) with hM0 | ⟨x', hM0⟩
  · skip
    have q31 : ∀ t, Go p e below T27 (mkF m 17 #[.val (.ref a1), .val (.int p2), .val (.int p3), .val (.long (own_key p2 p3)), .second, .unset] [.null]) t → Go p e below s₁ (entryFrame m #[(.ref a1), (.int p2), (.int p3)] 6) t := fun t kt => q30 t (by rw [hM0]; exact kt)
    have q32 := fun t (kt : Go p e below T27 (mkF m 28 #[.val (.ref a1), .val (.int p2), .val (.int p3), .val (.long (own_key p2 p3)), .second, .val .null] [(.ref a1)]) t) => q31 t (by
      show Go p e below T27 (mkF m 17 #[.val (.ref a1), .val (.int p2), .val (.int p3), .val (.long (own_key p2 p3)), .second, .unset] [.null]) _
      refine X27.checkcastNull hx (g := (mkF m 17 #[.val (.ref a1), .val (.int p2), .val (.int p3), .val (.long (own_key p2 p3)), .second, .unset] [.null])) rfl rfl (hb hby d10_17) _ ?_
      show Go p e below T27 (mkF m 20 #[.val (.ref a1), .val (.int p2), .val (.int p3), .val (.long (own_key p2 p3)), .second, .unset] [.null]) _
      refine XS.astore X27.here hx rfl (hb hby d10_20) rfl rfl (l' := #[.val (.ref a1), .val (.int p2), .val (.int p3), .val (.long (own_key p2 p3)), .second, .val .null]) rfl ?_
      show Go p e below T27 (mkF m 22 #[.val (.ref a1), .val (.int p2), .val (.int p3), .val (.long (own_key p2 p3)), .second, .val .null] []) _
      refine XS.aload X27.here hx rfl (hb hby d10_22) rfl rfl ?_
      show Go p e below T27 (mkF m 24 #[.val (.ref a1), .val (.int p2), .val (.int p3), .val (.long (own_key p2 p3)), .second, .val .null] [.null]) _
      refine XS.ifnonnullNo X27.here hx rfl (hb hby d10_24) rfl ?_
      show Go p e below T27 (mkF m 27 #[.val (.ref a1), .val (.int p2), .val (.int p3), .val (.long (own_key p2 p3)), .second, .val .null] []) _
      refine XS.aloadN X27.here hx rfl (hb hby d10_27) rfl rfl ?_
      exact kt)
    obtain ⟨cq34, kq34, q34a, q34b, q34c⟩ := isOf hZ eq27 E1
    obtain ⟨_, _, ⟨T33, L33, k33, n33⟩, -, X33, ⟨Lc33, hQ33, l33, y33, z33⟩, st33⟩ := X27.virtualBack hx (y := (⟨"com/example/pointward/pointward/pointsto/ConstraintGraph", "newNode", "()Lcom/example/pointward/pointward/pointsto/ConstraintGraph$Node;"⟩ : MethodName)) (z := (⟨"com/example/pointward/pointward/pointsto/ConstraintGraph", "newNode", "()Lcom/example/pointward/pointward/pointsto/ConstraintGraph$Node;"⟩ : MethodName)) hown (mvT hZ (own_w hw 69 rfl)) (mvT hZ (own_w hw 70 rfl)) (notFace_of_selects (args := #[]) (mvT hZ (own_w hw 72 rfl))) (mvT hZ (own_w hw 72 rfl)) (mvT hZ (own_w hw 71 rfl)) (by decide) (backOf (W := 0) (rm11 l Z a0 hw [] cx a1 tl z h0 n0 O0 E1 F1 F2 g_a1) hZ (own_w hw 73 rfl) (own_w hw 2 rfl) (by decide) (by decide)) q34a q34c (g := (mkF m 28 #[.val (.ref a1), .val (.int p2), .val (.int p3), .val (.long (own_key p2 p3)), .second, .val .null] [(.ref a1)])) rfl (by rw [hml]; rfl) (Steps.refl _) (argsL := []) (rest := []) (lenOf pd_5 rfl) rfl (by show 2 * 0 + _ ≤ _; exact Nat.le_of_eq rfl) (hb hby d10_28) (fun _ _ => ⟨rfl, eq27, (by decide : 0 + 4 ≤ _), (by decide : 0 + 13 ≤ _)⟩)
    dsimp only [Pt.U, Pt.locs, Pt.cells, Pt.slots] at X33 l33 y33 z33 st33 hQ33
    subst l33 y33 z33
    obtain ⟨b_33, rfl, Nq33, Kq33, fr33_0, fq33_0, fq33_1, fq33_2⟩ := hQ33
    have N35 := Fr.app N29 Nq33
    have q36 := fun t (kt : Go p e below T33 (mkF m 31 #[.val (.ref a1), .val (.int p2), .val (.int p3), .val (.long (own_key p2 p3)), .second, .val .null] [(.ref b_33)]) t) => q32 t (st33.trans kt)
    have gg37 : n0 ≤ b_33 := Nat.le_trans (O0.1 ▸ O0.2.1) fr33_0
    have sz38 : h0.size ≤ b_33 := Nat.le_trans K0.1 fr33_0
    have O39 : Old Z n0 T33.heap := O0.keep Kq33 (allS g_a1 all0)
    have K40 : Keep h0 T33.heap [a1, tl, ka, va] := K0.trans Kq33 (allS (Or.inl (List.mem_of_getElem? (i := 0) rfl)) all0)
    have q41 := fun t (kt : Go p e below T33 (mkF m 34 #[.val (.ref a1), .val (.int p2), .val (.int p3), .val (.long (own_key p2 p3)), .second, .val (.ref b_33)] [(.ref a1)]) t) => q36 t (by
      show Go p e below T33 (mkF m 31 #[.val (.ref a1), .val (.int p2), .val (.int p3), .val (.long (own_key p2 p3)), .second, .val .null] [(.ref b_33)]) _
      refine XS.astore X33.here hx rfl (hb hby d10_31) rfl rfl (l' := #[.val (.ref a1), .val (.int p2), .val (.int p3), .val (.long (own_key p2 p3)), .second, .val (.ref b_33)]) rfl ?_
      show Go p e below T33 (mkF m 33 #[.val (.ref a1), .val (.int p2), .val (.int p3), .val (.long (own_key p2 p3)), .second, .val (.ref b_33)] []) _
      refine XS.aloadN X33.here hx rfl (hb hby d10_33) rfl rfl ?_
      exact kt)
    obtain ⟨T42, X42, e42, st42⟩ := getF X33 hx hZ hown (host := "") (Or.inl (own_w hw 41 rfl)) Via.refl rfl fq33_0 (g := (mkF m 34 #[.val (.ref a1), .val (.int p2), .val (.int p3), .val (.long (own_key p2 p3)), .second, .val (.ref b_33)] [(.ref a1)])) rfl rfl (hb hby d10_34)
    have q43 := fun t (kt : Go p e below T42 (mkF m 37 #[.val (.ref a1), .val (.int p2), .val (.int p3), .val (.long (own_key p2 p3)), .second, .val (.ref b_33)] [(.ref tl)]) t) => q41 t (st42 t kt)
    have f44 : Tb Z T33.heap tl ka va M n := (T1.keep Kq33 (ninS (Ne.symm h1) nin0) (ninS (Ne.symm h2) nin0) (ninS (Ne.symm h3) nin0))
    have q45 := fun t (kt : Go p e below T42 (mkF m 40 #[.val (.ref a1), .val (.int p2), .val (.int p3), .val (.long (own_key p2 p3)), .second, .val (.ref b_33)] [(.ref b_33), (.long (own_key p2 p3)), (.ref tl)]) t) => q43 t (by
      show Go p e below T42 (mkF m 37 #[.val (.ref a1), .val (.int p2), .val (.int p3), .val (.long (own_key p2 p3)), .second, .val (.ref b_33)] [(.ref tl)]) _
      refine XS.lloadN X42.here hx rfl (hb hby d10_37) rfl ?_
      show Go p e below T42 (mkF m 38 #[.val (.ref a1), .val (.int p2), .val (.int p3), .val (.long (own_key p2 p3)), .second, .val (.ref b_33)] [(.long (own_key p2 p3)), (.ref tl)]) _
      refine XS.aload X42.here hx rfl (hb hby d10_38) rfl rfl ?_
      exact kt)
    have f48 : Exa Z T33.heap tl "com/example/pointward/pointward/pointsto/LongTable" := (T1.exa.keep Kq33)
    obtain ⟨cq47, kq47, q47a, q47b, q47c⟩ := isOf hZ e42 f48
    obtain ⟨_, _, ⟨T46, L46, k46, n46⟩, -, X46, ⟨Lc46, hQ46, l46, y46, z46⟩, st46⟩ := X42.virtualBack hx (y := (⟨"com/example/pointward/pointward/pointsto/LongTable", "put", "(JLjava/lang/Object;)V"⟩ : MethodName)) (z := (⟨"com/example/pointward/pointward/pointsto/LongTable", "put", "(JLjava/lang/Object;)V"⟩ : MethodName)) hown (mvT hZ (own_w hw 131 rfl)) (mvT hZ (own_w hw 132 rfl)) (notFace_of_selects (args := #[]) (mvT hZ (own_w hw 134 rfl))) (mvT hZ (own_w hw 134 rfl)) (mvT hZ (own_w hw 133 rfl)) (by decide) (backOf (W := 0) (rm17 l Z a0 hw [] cx tl (own_key p2 p3) b_33 ka va M n T33.heap n0 O39 f44 fq33_2 g_tl g_ka g_va hn hM0) hZ (own_w hw 135 rfl) (own_w hw 30 rfl) (by decide) (by decide)) q47a q47c (g := (mkF m 40 #[.val (.ref a1), .val (.int p2), .val (.int p3), .val (.long (own_key p2 p3)), .second, .val (.ref b_33)] [(.ref b_33), (.long (own_key p2 p3)), (.ref tl)])) rfl (by rw [hml]; rfl) (Steps.refl _) (argsL := [(.long (own_key p2 p3)), (.ref b_33)]) (rest := []) (lenOf pd_6 rfl) rfl (by show 2 * 0 + _ ≤ _; exact Nat.le_of_eq rfl) (hb hby d10_40) (fun _ _ => ⟨rfl, e42, (by decide : 4 + 0 ≤ _), (by decide : 13 + 0 ≤ _)⟩)
    dsimp only [Pt.U, Pt.locs, Pt.cells, Pt.slots] at X46 l46 y46 z46 st46 hQ46
    subst l46 y46 z46
    obtain ⟨rfl, Nq46, Kq46, fq46_0⟩ := hQ46
    have N49 := Fr.app N35 Nq46
    have q50 := fun t (kt : Go p e below T46 (mkF m 43 #[.val (.ref a1), .val (.int p2), .val (.int p3), .val (.long (own_key p2 p3)), .second, .val (.ref b_33)] []) t) => q45 t (st46.trans kt)
    have O51 : Old Z n0 T46.heap := O39.keep Kq46 (allS g_tl (allS g_ka (allS g_va all0)))
    have K52 : Keep h0 T46.heap [a1, tl, ka, va] := K40.trans Kq46 (allS (Or.inl (List.mem_of_getElem? (i := 1) rfl)) (allS (Or.inl (List.mem_of_getElem? (i := 2) rfl)) (allS (Or.inl (List.mem_of_getElem? (i := 3) rfl)) all0)))
    have q53 := fun t (kt : Go p e below T46 (mkF m 45 #[.val (.ref a1), .val (.int p2), .val (.int p3), .val (.long (own_key p2 p3)), .second, .val (.ref b_33)] [(.ref b_33)]) t) => q50 t (by
      show Go p e below T46 (mkF m 43 #[.val (.ref a1), .val (.int p2), .val (.int p3), .val (.long (own_key p2 p3)), .second, .val (.ref b_33)] []) _
      refine XS.aload X46.here hx rfl (hb hby d10_43) rfl rfl ?_
      exact kt)
    have f54 : Fld Z T46.heap a1 "com/example/pointward/pointward/pointsto/ConstraintGraph" "fields" "Lcom/example/pointward/pointward/pointsto/LongTable;" (.ref tl) := (fq33_0.keep Kq46 (ninS h1 (ninS h2 (ninS h3 nin0))))
    have f55 : Fld Z T46.heap a1 "com/example/pointward/pointward/pointsto/ConstraintGraph" "nodeCount" "I" (.int (z + (1 : Int32))) := (fq33_1.keep Kq46 (ninS h1 (ninS h2 (ninS h3 nin0))))
    have f56 : Exa Z T46.heap b_33 "com/example/pointward/pointward/pointsto/ConstraintGraph$Node" := (fq33_2.keep Kq46)
    exact ⟨some (.ref b_33), T46, _, _, _, _, X46, by decide, by decide, nofun, q53, fun fs hr => retOut X46 hx hret rfl (Or.inr (Or.inr (Or.inr (Or.inr ⟨rfl, rfl, rfl⟩)))) (hb hby d10_45) hr, ⟨b_33, (own_upM M (own_key p2 p3) b_33), (n + 1), (z + (1 : Int32)), rfl, N49, K52, f54, f55, fq46_0, f56, ⟨own_upM_at _ _ _, Or.inr ⟨hM0, rfl, rfl, sz38⟩⟩⟩⟩
  · skip
    have q57 : ∀ t, Go p e below T27 (mkF m 17 #[.val (.ref a1), .val (.int p2), .val (.int p3), .val (.long (own_key p2 p3)), .second, .unset] [(.ref x')]) t → Go p e below s₁ (entryFrame m #[(.ref a1), (.int p2), (.int p3)] 6) t := fun t kt => q30 t (by rw [hM0]; exact kt)
    obtain ⟨T58, X58, e58, st58⟩ := castY X27 hx hZ hown (own_w hw 74 rfl) eq27 (Ins.self (Tb.node T1 hM0)) (g := (mkF m 17 #[.val (.ref a1), .val (.int p2), .val (.int p3), .val (.long (own_key p2 p3)), .second, .unset] [(.ref x')])) rfl rfl (hb hby d10_17)
    have q59 := fun t (kt : Go p e below T58 (mkF m 20 #[.val (.ref a1), .val (.int p2), .val (.int p3), .val (.long (own_key p2 p3)), .second, .unset] [(.ref x')]) t) => q57 t (st58 t kt)
    have q60 := fun t (kt : Go p e below T58 (mkF m 45 #[.val (.ref a1), .val (.int p2), .val (.int p3), .val (.long (own_key p2 p3)), .second, .val (.ref x')] [(.ref x')]) t) => q59 t (by
      show Go p e below T58 (mkF m 20 #[.val (.ref a1), .val (.int p2), .val (.int p3), .val (.long (own_key p2 p3)), .second, .unset] [(.ref x')]) _
      refine XS.astore X58.here hx rfl (hb hby d10_20) rfl rfl (l' := #[.val (.ref a1), .val (.int p2), .val (.int p3), .val (.long (own_key p2 p3)), .second, .val (.ref x')]) rfl ?_
      show Go p e below T58 (mkF m 22 #[.val (.ref a1), .val (.int p2), .val (.int p3), .val (.long (own_key p2 p3)), .second, .val (.ref x')] []) _
      refine XS.aload X58.here hx rfl (hb hby d10_22) rfl rfl ?_
      show Go p e below T58 (mkF m 24 #[.val (.ref a1), .val (.int p2), .val (.int p3), .val (.long (own_key p2 p3)), .second, .val (.ref x')] [(.ref x')]) _
      refine XS.ifnonnullYes X58.here hx rfl (pc0 := 24) (pc' := 43) rfl (hb hby d10_24) rfl (by decide) (by decide) ?_
      show Go p e below T58 (mkF m 43 #[.val (.ref a1), .val (.int p2), .val (.int p3), .val (.long (own_key p2 p3)), .second, .val (.ref x')] []) _
      refine XS.aload X58.here hx rfl (hb hby d10_43) rfl rfl ?_
      exact kt)
    exact ⟨some (.ref x'), T58, _, _, _, _, X58, by decide, by decide, nofun, q60, fun fs hr => retOut X58 hx hret rfl (Or.inr (Or.inr (Or.inr (Or.inr ⟨rfl, rfl, rfl⟩)))) (hb hby d10_45) hr, by rw [e58]; exact ⟨x', M, n, z, rfl, N29, K0, F1, F2, T1, (Tb.node T1 hM0), ⟨hM0, Or.inl ⟨hM0, rfl, rfl⟩⟩⟩⟩
theorem ef_0_IIIIII (m : MethodId) (x0 : Int32) (x1 : Int32) (x2 : Int32) (x3 : Int32) (x4 : Int32) (x5 : Int32) : entryFrame m #[(.int x0), (.int x1), (.int x2), (.int x3), (.int x4), (.int x5)] maxLocals = mkF m 0 #[.val (.int x0), .val (.int x1), .val (.int x2), .val (.int x3), .val (.int x4), .val (.int x5), .unset, .unset, .unset, .unset, .unset, .unset, .unset, .unset, .unset, .unset, .unset, .unset, .unset, .unset, .unset, .unset] [] := by first | (simp [entryFrame, mkF, argsToLocals, Value.category, maxLocals]; done) | rfl
theorem pn_0 : plainName "com/example/pointward/pointward/pointsto/ConstraintGraphExistingFieldPinLaw" = true := by first | (simp [plainName, overriddenIn]; done) | decide +kernel
theorem pd_7 : parseMethodDescriptor "(IIII)I" = some ⟨[.int, .int, .int, .int], some .int⟩ := by decide +kernel
theorem pd_8 : parseMethodDescriptor "(II)Lcom/example/pointward/pointward/pointsto/ConstraintGraph$Node;" = some ⟨[.int, .int], some (.object "com/example/pointward/pointward/pointsto/ConstraintGraph$Node")⟩ := by decide +kernel
def Q_rm0 (Z : State) (p1 : Int32) (p2 : Int32) (p3 : Int32) (p4 : Int32) (p5 : Int32) (p6 : Int32) (w_NB : Addr) (w_NW : Addr) (w_EL : Addr) (h0 : Heap) (n0 : Nat) (v : Option Value) (h : Heap) (L : List Loc) : Prop := v = some (.int (1 : Int32)) ∧ Fr n0 L
theorem rm0 (l : Launch) (Z : State) (a0 : Array Value) (hw : ∀ d ∈ tables_1, d.before a0 Z = true) (ws : List Jvm.Cond) {w_NB : Addr} {w_NW : Addr} {w_EL : Addr} (cx : Cx Z w_NB w_NW w_EL) (p1 : Int32) (p2 : Int32) (p3 : Int32) (p4 : Int32) (p5 : Int32) (p6 : Int32) (h0 : Heap) (n0 : Nat) (O0 : Old Z n0 h0) :
    OwnMet l x (Jvm.Cond.code x code maxLocals ret :: ws) room_1 #[(.int p1), (.int p2), (.int p3), (.int p4), (.int p5), (.int p6)] Z h0 (Q_rm0 Z p1 p2 p3 p4 p5 p6 w_NB w_NW w_EL h0 n0) := by
  refine own_body (plainFor_of_name pn_0) hisR fun p e s m below meth c s₁ hx hby hml hown hnm hret hZ X0 e0 => ?_
  have N0 := Fr.nil n0
  have pre0 : ∀ t, Go p e below s₁ (mkF m 0 #[.val (.int p1), .val (.int p2), .val (.int p3), .val (.int p4), .val (.int p5), .val (.int p6), .unset, .unset, .unset, .unset, .unset, .unset, .unset, .unset, .unset, .unset, .unset, .unset, .unset, .unset, .unset, .unset] []) t → Go p e below s₁ (entryFrame m #[(.int p1), (.int p2), (.int p3), (.int p4), (.int p5), (.int p6)] maxLocals) t := fun t k => castTop (ef_0_IIIIII m p1 p2 p3 p4 p5 p6) k
  obtain ⟨T21, h21, X21, e21, E21, A21, D21, U21, st21⟩ := newO X0 hx hZ hown (own_w hw 0 rfl) (own_w hw 1 rfl) (own_w hw 2 rfl) e0 (g := (mkF m 0 #[.val (.int p1), .val (.int p2), .val (.int p3), .val (.int p4), .val (.int p5), .val (.int p6), .unset, .unset, .unset, .unset, .unset, .unset, .unset, .unset, .unset, .unset, .unset, .unset, .unset, .unset, .unset, .unset] [])) rfl (hb hby at_0) (by decide) (by decide)
  obtain ⟨b21, g21⟩ : ∃ z, z = h0.size := ⟨_, rfl⟩
  rw [← g21] at A21 D21 st21
  have gg22 : n0 ≤ b21 := Nat.le_trans (O0.1 ▸ O0.2.1) (Nat.le_of_eq g21.symm)
  have q23 := fun t (kt : Go p e below T21 (mkF m 3 #[.val (.int p1), .val (.int p2), .val (.int p3), .val (.int p4), .val (.int p5), .val (.int p6), .unset, .unset, .unset, .unset, .unset, .unset, .unset, .unset, .unset, .unset, .unset, .unset, .unset, .unset, .unset, .unset] [(.ref b21)]) t) => pre0 t (st21 t kt)
  have O24 : Old Z n0 h21 := O0.ext E21
  have F21_worklist : Fld Z h21 b21 "com/example/pointward/pointward/pointsto/ConstraintGraph" "worklist" "Ljava/util/ArrayDeque;" .null := D21 (Or.inr (own_w hw 27 rfl)) (ty := (.object "java/util/ArrayDeque")) (by decide)
  have F21_fields : Fld Z h21 b21 "com/example/pointward/pointward/pointsto/ConstraintGraph" "fields" "Lcom/example/pointward/pointward/pointsto/LongTable;" .null := D21 (Or.inr (own_w hw 42 rfl)) (ty := (.object "com/example/pointward/pointward/pointsto/LongTable")) (by decide)
  have F21_edges : Fld Z h21 b21 "com/example/pointward/pointward/pointsto/ConstraintGraph" "edges" "Lcom/example/pointward/pointward/pointsto/LongTable;" .null := D21 (Or.inr (own_w hw 44 rfl)) (ty := (.object "com/example/pointward/pointward/pointsto/LongTable")) (by decide)
  have F21_nodeCount : Fld Z h21 b21 "com/example/pointward/pointward/pointsto/ConstraintGraph" "nodeCount" "I" (.int (0 : Int32)) := D21 (Or.inl (own_w hw 78 rfl)) (ty := .int) (by decide)
  have q25 := fun t (kt : Go p e below T21 (mkF m 4 #[.val (.int p1), .val (.int p2), .val (.int p3), .val (.int p4), .val (.int p5), .val (.int p6), .unset, .unset, .unset, .unset, .unset, .unset, .unset, .unset, .unset, .unset, .unset, .unset, .unset, .unset, .unset, .unset] [(.ref b21), (.ref b21)]) t) => q23 t (by
    show Go p e below T21 (mkF m 3 #[.val (.int p1), .val (.int p2), .val (.int p3), .val (.int p4), .val (.int p5), .val (.int p6), .unset, .unset, .unset, .unset, .unset, .unset, .unset, .unset, .unset, .unset, .unset, .unset, .unset, .unset, .unset, .unset] [(.ref b21)]) _
    refine XS.dup X21.here hx rfl (hb hby at_3) rfl rfl ?_
    exact kt)
  obtain ⟨_, _, ⟨T26, L26, k26, n26⟩, -, X26, ⟨Lc26, hQ26, l26, y26, z26⟩, st26⟩ := X21.specialBack hx (y := (⟨"com/example/pointward/pointward/pointsto/ConstraintGraph", "<init>", "()V"⟩ : MethodName)) rfl hown (mvT hZ (own_w hw 3 rfl)) (mvT hZ (own_w hw 4 rfl)) (mvT hZ (own_w hw 5 rfl)) (by decide) (backOf (W := 1) (rm1 l Z a0 hw [] cx b21 h21 n0 O24 A21 F21_worklist F21_fields F21_edges F21_nodeCount gg22) hZ (own_w hw 5 rfl) (own_w hw 2 rfl) (by decide) (by decide)) (g := (mkF m 4 #[.val (.int p1), .val (.int p2), .val (.int p3), .val (.int p4), .val (.int p5), .val (.int p6), .unset, .unset, .unset, .unset, .unset, .unset, .unset, .unset, .unset, .unset, .unset, .unset, .unset, .unset, .unset, .unset] [(.ref b21), (.ref b21)])) rfl (by rw [hml]; rfl) (Steps.refl _) (a := b21) (argsL := []) (rest := [(.ref b21)]) (lenOf pd_0 rfl) rfl (by show 2 * 0 + _ ≤ _; exact Nat.le_of_eq rfl) (hb hby at_4) (fun _ _ => ⟨rfl, e21, (by decide : 1 + 8 ≤ _), (by decide : 4 + 90 ≤ _)⟩)
  dsimp only [Pt.U, Pt.locs, Pt.cells, Pt.slots] at X26 l26 y26 z26 st26 hQ26
  subst l26 y26 z26
  obtain ⟨tl_26, ka_26, va_26, rfl, Nq26, Kq26, fr26_0, fr26_1, fr26_2, fq26_0, fq26_1, fq26_2, fq26_3⟩ := hQ26
  have N27 := Fr.app N0 Nq26
  have q28 := fun t (kt : Go p e below T26 (mkF m 7 #[.val (.int p1), .val (.int p2), .val (.int p3), .val (.int p4), .val (.int p5), .val (.int p6), .unset, .unset, .unset, .unset, .unset, .unset, .unset, .unset, .unset, .unset, .unset, .unset, .unset, .unset, .unset, .unset] [(.ref b21)]) t) => q25 t (st26.trans kt)
  have gg29 : n0 ≤ tl_26 := Nat.le_trans (O24.1 ▸ O24.2.1) fr26_0
  have gg30 : n0 ≤ ka_26 := Nat.le_trans (O24.1 ▸ O24.2.1) fr26_1
  have gg31 : n0 ≤ va_26 := Nat.le_trans (O24.1 ▸ O24.2.1) fr26_2
  have O32 : Old Z n0 T26.heap := O24.keep Kq26 (allS gg22 all0)
  have ne33 : b21 ≠ tl_26 := (Nat.ne_of_lt (Nat.lt_of_lt_of_le A21.lt fr26_0))
  have ne34 : b21 ≠ ka_26 := (Nat.ne_of_lt (Nat.lt_of_lt_of_le A21.lt fr26_1))
  have ne35 : b21 ≠ va_26 := (Nat.ne_of_lt (Nat.lt_of_lt_of_le A21.lt fr26_2))
  have q36 := fun t (kt : Go p e below T26 (mkF m 28 #[.val (.int p1), .val (.int p2), .val (.int p3), .val (.int p4), .val (.int p5), .val (.int p6), .val (.ref b21), .val (.int (p2 &&& (2147483647 : Int32))), .val (.int (p4 &&& (2147483647 : Int32))), .val (.int (p5 &&& (2147483647 : Int32))), .unset, .unset, .unset, .unset, .unset, .unset, .unset, .unset, .unset, .unset, .unset, .unset] []) t) => q28 t (by
    show Go p e below T26 (mkF m 7 #[.val (.int p1), .val (.int p2), .val (.int p3), .val (.int p4), .val (.int p5), .val (.int p6), .unset, .unset, .unset, .unset, .unset, .unset, .unset, .unset, .unset, .unset, .unset, .unset, .unset, .unset, .unset, .unset] [(.ref b21)]) _
    refine XS.astore X26.here hx rfl (hb hby at_7) rfl rfl (l' := #[.val (.int p1), .val (.int p2), .val (.int p3), .val (.int p4), .val (.int p5), .val (.int p6), .val (.ref b21), .unset, .unset, .unset, .unset, .unset, .unset, .unset, .unset, .unset, .unset, .unset, .unset, .unset, .unset, .unset]) rfl ?_
    show Go p e below T26 (mkF m 9 #[.val (.int p1), .val (.int p2), .val (.int p3), .val (.int p4), .val (.int p5), .val (.int p6), .val (.ref b21), .unset, .unset, .unset, .unset, .unset, .unset, .unset, .unset, .unset, .unset, .unset, .unset, .unset, .unset, .unset] []) _
    refine XS.iloadN X26.here hx rfl (hb hby at_9) rfl ?_
    show Go p e below T26 (mkF m 10 #[.val (.int p1), .val (.int p2), .val (.int p3), .val (.int p4), .val (.int p5), .val (.int p6), .val (.ref b21), .unset, .unset, .unset, .unset, .unset, .unset, .unset, .unset, .unset, .unset, .unset, .unset, .unset, .unset, .unset] [(.int p2)]) _
    refine X26.ldcInt hx hown (mvT hZ (own_w hw 45 rfl)) (g := (mkF m 10 #[.val (.int p1), .val (.int p2), .val (.int p3), .val (.int p4), .val (.int p5), .val (.int p6), .val (.ref b21), .unset, .unset, .unset, .unset, .unset, .unset, .unset, .unset, .unset, .unset, .unset, .unset, .unset, .unset, .unset] [(.int p2)])) rfl (hb hby at_10) _ ?_
    show Go p e below T26 (mkF m 12 #[.val (.int p1), .val (.int p2), .val (.int p3), .val (.int p4), .val (.int p5), .val (.int p6), .val (.ref b21), .unset, .unset, .unset, .unset, .unset, .unset, .unset, .unset, .unset, .unset, .unset, .unset, .unset, .unset, .unset] [(.int (2147483647 : Int32)), (.int p2)]) _
    refine XS.iand X26.here hx rfl (hb hby at_12) rfl ?_
    show Go p e below T26 (mkF m 13 #[.val (.int p1), .val (.int p2), .val (.int p3), .val (.int p4), .val (.int p5), .val (.int p6), .val (.ref b21), .unset, .unset, .unset, .unset, .unset, .unset, .unset, .unset, .unset, .unset, .unset, .unset, .unset, .unset, .unset] [(.int (p2 &&& (2147483647 : Int32)))]) _
    refine XS.istore X26.here hx rfl (hb hby at_13) rfl (l' := #[.val (.int p1), .val (.int p2), .val (.int p3), .val (.int p4), .val (.int p5), .val (.int p6), .val (.ref b21), .val (.int (p2 &&& (2147483647 : Int32))), .unset, .unset, .unset, .unset, .unset, .unset, .unset, .unset, .unset, .unset, .unset, .unset, .unset, .unset]) rfl ?_
    show Go p e below T26 (mkF m 15 #[.val (.int p1), .val (.int p2), .val (.int p3), .val (.int p4), .val (.int p5), .val (.int p6), .val (.ref b21), .val (.int (p2 &&& (2147483647 : Int32))), .unset, .unset, .unset, .unset, .unset, .unset, .unset, .unset, .unset, .unset, .unset, .unset, .unset, .unset] []) _
    refine XS.iloadN X26.here hx rfl (hb hby at_15) rfl ?_
    show Go p e below T26 (mkF m 16 #[.val (.int p1), .val (.int p2), .val (.int p3), .val (.int p4), .val (.int p5), .val (.int p6), .val (.ref b21), .val (.int (p2 &&& (2147483647 : Int32))), .unset, .unset, .unset, .unset, .unset, .unset, .unset, .unset, .unset, .unset, .unset, .unset, .unset, .unset] [(.int p4)]) _
    refine X26.ldcInt hx hown (mvT hZ (own_w hw 45 rfl)) (g := (mkF m 16 #[.val (.int p1), .val (.int p2), .val (.int p3), .val (.int p4), .val (.int p5), .val (.int p6), .val (.ref b21), .val (.int (p2 &&& (2147483647 : Int32))), .unset, .unset, .unset, .unset, .unset, .unset, .unset, .unset, .unset, .unset, .unset, .unset, .unset, .unset] [(.int p4)])) rfl (hb hby at_16) _ ?_
    show Go p e below T26 (mkF m 18 #[.val (.int p1), .val (.int p2), .val (.int p3), .val (.int p4), .val (.int p5), .val (.int p6), .val (.ref b21), .val (.int (p2 &&& (2147483647 : Int32))), .unset, .unset, .unset, .unset, .unset, .unset, .unset, .unset, .unset, .unset, .unset, .unset, .unset, .unset] [(.int (2147483647 : Int32)), (.int p4)]) _
    refine XS.iand X26.here hx rfl (hb hby at_18) rfl ?_
    show Go p e below T26 (mkF m 19 #[.val (.int p1), .val (.int p2), .val (.int p3), .val (.int p4), .val (.int p5), .val (.int p6), .val (.ref b21), .val (.int (p2 &&& (2147483647 : Int32))), .unset, .unset, .unset, .unset, .unset, .unset, .unset, .unset, .unset, .unset, .unset, .unset, .unset, .unset] [(.int (p4 &&& (2147483647 : Int32)))]) _
    refine XS.istore X26.here hx rfl (hb hby at_19) rfl (l' := #[.val (.int p1), .val (.int p2), .val (.int p3), .val (.int p4), .val (.int p5), .val (.int p6), .val (.ref b21), .val (.int (p2 &&& (2147483647 : Int32))), .val (.int (p4 &&& (2147483647 : Int32))), .unset, .unset, .unset, .unset, .unset, .unset, .unset, .unset, .unset, .unset, .unset, .unset, .unset]) rfl ?_
    show Go p e below T26 (mkF m 21 #[.val (.int p1), .val (.int p2), .val (.int p3), .val (.int p4), .val (.int p5), .val (.int p6), .val (.ref b21), .val (.int (p2 &&& (2147483647 : Int32))), .val (.int (p4 &&& (2147483647 : Int32))), .unset, .unset, .unset, .unset, .unset, .unset, .unset, .unset, .unset, .unset, .unset, .unset, .unset] []) _
    refine XS.iload X26.here hx rfl (hb hby at_21) rfl ?_
    show Go p e below T26 (mkF m 23 #[.val (.int p1), .val (.int p2), .val (.int p3), .val (.int p4), .val (.int p5), .val (.int p6), .val (.ref b21), .val (.int (p2 &&& (2147483647 : Int32))), .val (.int (p4 &&& (2147483647 : Int32))), .unset, .unset, .unset, .unset, .unset, .unset, .unset, .unset, .unset, .unset, .unset, .unset, .unset] [(.int p5)]) _
    refine X26.ldcInt hx hown (mvT hZ (own_w hw 45 rfl)) (g := (mkF m 23 #[.val (.int p1), .val (.int p2), .val (.int p3), .val (.int p4), .val (.int p5), .val (.int p6), .val (.ref b21), .val (.int (p2 &&& (2147483647 : Int32))), .val (.int (p4 &&& (2147483647 : Int32))), .unset, .unset, .unset, .unset, .unset, .unset, .unset, .unset, .unset, .unset, .unset, .unset, .unset] [(.int p5)])) rfl (hb hby at_23) _ ?_
    show Go p e below T26 (mkF m 25 #[.val (.int p1), .val (.int p2), .val (.int p3), .val (.int p4), .val (.int p5), .val (.int p6), .val (.ref b21), .val (.int (p2 &&& (2147483647 : Int32))), .val (.int (p4 &&& (2147483647 : Int32))), .unset, .unset, .unset, .unset, .unset, .unset, .unset, .unset, .unset, .unset, .unset, .unset, .unset] [(.int (2147483647 : Int32)), (.int p5)]) _
    refine XS.iand X26.here hx rfl (hb hby at_25) rfl ?_
    show Go p e below T26 (mkF m 26 #[.val (.int p1), .val (.int p2), .val (.int p3), .val (.int p4), .val (.int p5), .val (.int p6), .val (.ref b21), .val (.int (p2 &&& (2147483647 : Int32))), .val (.int (p4 &&& (2147483647 : Int32))), .unset, .unset, .unset, .unset, .unset, .unset, .unset, .unset, .unset, .unset, .unset, .unset, .unset] [(.int (p5 &&& (2147483647 : Int32)))]) _
    refine XS.istore X26.here hx rfl (hb hby at_26) rfl (l' := #[.val (.int p1), .val (.int p2), .val (.int p3), .val (.int p4), .val (.int p5), .val (.int p6), .val (.ref b21), .val (.int (p2 &&& (2147483647 : Int32))), .val (.int (p4 &&& (2147483647 : Int32))), .val (.int (p5 &&& (2147483647 : Int32))), .unset, .unset, .unset, .unset, .unset, .unset, .unset, .unset, .unset, .unset, .unset, .unset]) rfl ?_
    exact kt)
  obtain ⟨T37, lo37, mA, X37, e37, N37, mp37_0, q37⟩ : ∃ (T37 : State) (lo37 : List Loc) (mA : Int32), Stand p l e room_1 s m #[(.int p1), (.int p2), (.int p3), (.int p4), (.int p5), (.int p6)] below meth c T37 lo37 9 94 ∧ T37.heap = T26.heap ∧ Fr n0 lo37 ∧ (mA = (0 : Int32) ∨ mA = (1 : Int32)) ∧ ∀ t, Go p e below T37 (mkF m 44 #[.val (.int p1), .val (.int p2), .val (.int p3), .val (.int p4), .val (.int p5), .val (.int p6), .val (.ref b21), .val (.int (p2 &&& (2147483647 : Int32))), .val (.int (p4 &&& (2147483647 : Int32))), .val (.int (p5 &&& (2147483647 : Int32))), .val (.int mA), .unset, .unset, .unset, .unset, .unset, .unset, .unset, .unset, .unset, .unset, .unset] []) t → Go p e below s₁ (entryFrame m #[(.int p1), (.int p2), (.int p3), (.int p4), (.int p5), (.int p6)] maxLocals) t := by
    skip
    have q38 := fun t (kt : Go p e below T26 (mkF m 34 #[.val (.int p1), .val (.int p2), .val (.int p3), .val (.int p4), .val (.int p5), .val (.int p6), .val (.ref b21), .val (.int (p2 &&& (2147483647 : Int32))), .val (.int (p4 &&& (2147483647 : Int32))), .val (.int (p5 &&& (2147483647 : Int32))), .unset, .unset, .unset, .unset, .unset, .unset, .unset, .unset, .unset, .unset, .unset, .unset] [(.int (((p6.toUInt32 >>> ((4 : Int32) &&& 31).toUInt32).toInt32) &&& (1 : Int32)))]) t) => q36 t (by
      show Go p e below T26 (mkF m 28 #[.val (.int p1), .val (.int p2), .val (.int p3), .val (.int p4), .val (.int p5), .val (.int p6), .val (.ref b21), .val (.int (p2 &&& (2147483647 : Int32))), .val (.int (p4 &&& (2147483647 : Int32))), .val (.int (p5 &&& (2147483647 : Int32))), .unset, .unset, .unset, .unset, .unset, .unset, .unset, .unset, .unset, .unset, .unset, .unset] []) _
      refine XS.iload X26.here hx rfl (hb hby at_28) rfl ?_
      show Go p e below T26 (mkF m 30 #[.val (.int p1), .val (.int p2), .val (.int p3), .val (.int p4), .val (.int p5), .val (.int p6), .val (.ref b21), .val (.int (p2 &&& (2147483647 : Int32))), .val (.int (p4 &&& (2147483647 : Int32))), .val (.int (p5 &&& (2147483647 : Int32))), .unset, .unset, .unset, .unset, .unset, .unset, .unset, .unset, .unset, .unset, .unset, .unset] [(.int p6)]) _
      refine XS.iconst X26.here hx rfl (hb hby at_30) ?_
      show Go p e below T26 (mkF m 31 #[.val (.int p1), .val (.int p2), .val (.int p3), .val (.int p4), .val (.int p5), .val (.int p6), .val (.ref b21), .val (.int (p2 &&& (2147483647 : Int32))), .val (.int (p4 &&& (2147483647 : Int32))), .val (.int (p5 &&& (2147483647 : Int32))), .unset, .unset, .unset, .unset, .unset, .unset, .unset, .unset, .unset, .unset, .unset, .unset] [(.int (4 : Int32)), (.int p6)]) _
      refine XS.iushr X26.here hx rfl (hb hby at_31) rfl ?_
      show Go p e below T26 (mkF m 32 #[.val (.int p1), .val (.int p2), .val (.int p3), .val (.int p4), .val (.int p5), .val (.int p6), .val (.ref b21), .val (.int (p2 &&& (2147483647 : Int32))), .val (.int (p4 &&& (2147483647 : Int32))), .val (.int (p5 &&& (2147483647 : Int32))), .unset, .unset, .unset, .unset, .unset, .unset, .unset, .unset, .unset, .unset, .unset, .unset] [(.int ((p6.toUInt32 >>> ((4 : Int32) &&& 31).toUInt32).toInt32))]) _
      refine XS.iconst X26.here hx rfl (hb hby at_32) ?_
      show Go p e below T26 (mkF m 33 #[.val (.int p1), .val (.int p2), .val (.int p3), .val (.int p4), .val (.int p5), .val (.int p6), .val (.ref b21), .val (.int (p2 &&& (2147483647 : Int32))), .val (.int (p4 &&& (2147483647 : Int32))), .val (.int (p5 &&& (2147483647 : Int32))), .unset, .unset, .unset, .unset, .unset, .unset, .unset, .unset, .unset, .unset, .unset, .unset] [(.int (1 : Int32)), (.int ((p6.toUInt32 >>> ((4 : Int32) &&& 31).toUInt32).toInt32))]) _
      refine XS.iand X26.here hx rfl (hb hby at_33) rfl ?_
      exact kt)
    by_cases hc39 : (((p6.toUInt32 >>> ((4 : Int32) &&& 31).toUInt32).toInt32) &&& (1 : Int32)) = (0 : Int32)
    · have q40 := fun t (kt : Go p e below T26 (mkF m 44 #[.val (.int p1), .val (.int p2), .val (.int p3), .val (.int p4), .val (.int p5), .val (.int p6), .val (.ref b21), .val (.int (p2 &&& (2147483647 : Int32))), .val (.int (p4 &&& (2147483647 : Int32))), .val (.int (p5 &&& (2147483647 : Int32))), .val (.int (1 : Int32)), .unset, .unset, .unset, .unset, .unset, .unset, .unset, .unset, .unset, .unset, .unset] []) t) => q38 t (by
        show Go p e below T26 (mkF m 34 #[.val (.int p1), .val (.int p2), .val (.int p3), .val (.int p4), .val (.int p5), .val (.int p6), .val (.ref b21), .val (.int (p2 &&& (2147483647 : Int32))), .val (.int (p4 &&& (2147483647 : Int32))), .val (.int (p5 &&& (2147483647 : Int32))), .unset, .unset, .unset, .unset, .unset, .unset, .unset, .unset, .unset, .unset, .unset, .unset] [(.int (((p6.toUInt32 >>> ((4 : Int32) &&& 31).toUInt32).toInt32) &&& (1 : Int32)))]) _
        refine XS.ifNo X26.here hx rfl (hb hby at_34) rfl ((if0 _ _).trans (teq hc39).2) ?_
        show Go p e below T26 (mkF m 37 #[.val (.int p1), .val (.int p2), .val (.int p3), .val (.int p4), .val (.int p5), .val (.int p6), .val (.ref b21), .val (.int (p2 &&& (2147483647 : Int32))), .val (.int (p4 &&& (2147483647 : Int32))), .val (.int (p5 &&& (2147483647 : Int32))), .unset, .unset, .unset, .unset, .unset, .unset, .unset, .unset, .unset, .unset, .unset, .unset] []) _
        refine XS.iconst X26.here hx rfl (hb hby at_37) ?_
        show Go p e below T26 (mkF m 38 #[.val (.int p1), .val (.int p2), .val (.int p3), .val (.int p4), .val (.int p5), .val (.int p6), .val (.ref b21), .val (.int (p2 &&& (2147483647 : Int32))), .val (.int (p4 &&& (2147483647 : Int32))), .val (.int (p5 &&& (2147483647 : Int32))), .unset, .unset, .unset, .unset, .unset, .unset, .unset, .unset, .unset, .unset, .unset, .unset] [(.int (1 : Int32))]) _
        refine XS.goto X26.here hx rfl (pc0 := 38) (pc' := 42) rfl (hb hby at_38) (by decide) (by decide) ?_
        show Go p e below T26 (mkF m 42 #[.val (.int p1), .val (.int p2), .val (.int p3), .val (.int p4), .val (.int p5), .val (.int p6), .val (.ref b21), .val (.int (p2 &&& (2147483647 : Int32))), .val (.int (p4 &&& (2147483647 : Int32))), .val (.int (p5 &&& (2147483647 : Int32))), .unset, .unset, .unset, .unset, .unset, .unset, .unset, .unset, .unset, .unset, .unset, .unset] [(.int (1 : Int32))]) _
        refine XS.istore X26.here hx rfl (hb hby at_42) rfl (l' := #[.val (.int p1), .val (.int p2), .val (.int p3), .val (.int p4), .val (.int p5), .val (.int p6), .val (.ref b21), .val (.int (p2 &&& (2147483647 : Int32))), .val (.int (p4 &&& (2147483647 : Int32))), .val (.int (p5 &&& (2147483647 : Int32))), .val (.int (1 : Int32)), .unset, .unset, .unset, .unset, .unset, .unset, .unset, .unset, .unset, .unset, .unset]) rfl ?_
        exact kt)
      exact ⟨T26, _, (1 : Int32), X26, rfl, N27, (Or.inr rfl), q40⟩
    · have q41 := fun t (kt : Go p e below T26 (mkF m 44 #[.val (.int p1), .val (.int p2), .val (.int p3), .val (.int p4), .val (.int p5), .val (.int p6), .val (.ref b21), .val (.int (p2 &&& (2147483647 : Int32))), .val (.int (p4 &&& (2147483647 : Int32))), .val (.int (p5 &&& (2147483647 : Int32))), .val (.int (0 : Int32)), .unset, .unset, .unset, .unset, .unset, .unset, .unset, .unset, .unset, .unset, .unset] []) t) => q38 t (by
        show Go p e below T26 (mkF m 34 #[.val (.int p1), .val (.int p2), .val (.int p3), .val (.int p4), .val (.int p5), .val (.int p6), .val (.ref b21), .val (.int (p2 &&& (2147483647 : Int32))), .val (.int (p4 &&& (2147483647 : Int32))), .val (.int (p5 &&& (2147483647 : Int32))), .unset, .unset, .unset, .unset, .unset, .unset, .unset, .unset, .unset, .unset, .unset, .unset] [(.int (((p6.toUInt32 >>> ((4 : Int32) &&& 31).toUInt32).toInt32) &&& (1 : Int32)))]) _
        refine XS.ifYes X26.here hx rfl (pc0 := 34) (pc' := 41) rfl (hb hby at_34) rfl ((if0 _ _).trans (feq hc39).2) (by decide) (by decide) ?_
        show Go p e below T26 (mkF m 41 #[.val (.int p1), .val (.int p2), .val (.int p3), .val (.int p4), .val (.int p5), .val (.int p6), .val (.ref b21), .val (.int (p2 &&& (2147483647 : Int32))), .val (.int (p4 &&& (2147483647 : Int32))), .val (.int (p5 &&& (2147483647 : Int32))), .unset, .unset, .unset, .unset, .unset, .unset, .unset, .unset, .unset, .unset, .unset, .unset] []) _
        refine XS.iconst X26.here hx rfl (hb hby at_41) ?_
        show Go p e below T26 (mkF m 42 #[.val (.int p1), .val (.int p2), .val (.int p3), .val (.int p4), .val (.int p5), .val (.int p6), .val (.ref b21), .val (.int (p2 &&& (2147483647 : Int32))), .val (.int (p4 &&& (2147483647 : Int32))), .val (.int (p5 &&& (2147483647 : Int32))), .unset, .unset, .unset, .unset, .unset, .unset, .unset, .unset, .unset, .unset, .unset, .unset] [(.int (0 : Int32))]) _
        refine XS.istore X26.here hx rfl (hb hby at_42) rfl (l' := #[.val (.int p1), .val (.int p2), .val (.int p3), .val (.int p4), .val (.int p5), .val (.int p6), .val (.ref b21), .val (.int (p2 &&& (2147483647 : Int32))), .val (.int (p4 &&& (2147483647 : Int32))), .val (.int (p5 &&& (2147483647 : Int32))), .val (.int (0 : Int32)), .unset, .unset, .unset, .unset, .unset, .unset, .unset, .unset, .unset, .unset, .unset]) rfl ?_
        exact kt)
      exact ⟨T26, _, (0 : Int32), X26, rfl, N27, (Or.inl rfl), q41⟩
  obtain ⟨T42, lo42, mB, X42, e42, N42, mp42_0, q42⟩ : ∃ (T42 : State) (lo42 : List Loc) (mB : Int32), Stand p l e room_1 s m #[(.int p1), (.int p2), (.int p3), (.int p4), (.int p5), (.int p6)] below meth c T42 lo42 9 94 ∧ T42.heap = T26.heap ∧ Fr n0 lo42 ∧ (mB = (0 : Int32) ∨ mB = (1 : Int32)) ∧ ∀ t, Go p e below T42 (mkF m 60 #[.val (.int p1), .val (.int p2), .val (.int p3), .val (.int p4), .val (.int p5), .val (.int p6), .val (.ref b21), .val (.int (p2 &&& (2147483647 : Int32))), .val (.int (p4 &&& (2147483647 : Int32))), .val (.int (p5 &&& (2147483647 : Int32))), .val (.int mA), .val (.int mB), .unset, .unset, .unset, .unset, .unset, .unset, .unset, .unset, .unset, .unset] []) t → Go p e below s₁ (entryFrame m #[(.int p1), (.int p2), (.int p3), (.int p4), (.int p5), (.int p6)] maxLocals) t := by
    skip
    have q43 := fun t (kt : Go p e below T37 (mkF m 50 #[.val (.int p1), .val (.int p2), .val (.int p3), .val (.int p4), .val (.int p5), .val (.int p6), .val (.ref b21), .val (.int (p2 &&& (2147483647 : Int32))), .val (.int (p4 &&& (2147483647 : Int32))), .val (.int (p5 &&& (2147483647 : Int32))), .val (.int mA), .unset, .unset, .unset, .unset, .unset, .unset, .unset, .unset, .unset, .unset, .unset] [(.int (((p6.toUInt32 >>> ((5 : Int32) &&& 31).toUInt32).toInt32) &&& (1 : Int32)))]) t) => q37 t (by
      show Go p e below T37 (mkF m 44 #[.val (.int p1), .val (.int p2), .val (.int p3), .val (.int p4), .val (.int p5), .val (.int p6), .val (.ref b21), .val (.int (p2 &&& (2147483647 : Int32))), .val (.int (p4 &&& (2147483647 : Int32))), .val (.int (p5 &&& (2147483647 : Int32))), .val (.int mA), .unset, .unset, .unset, .unset, .unset, .unset, .unset, .unset, .unset, .unset, .unset] []) _
      refine XS.iload X37.here hx rfl (hb hby at_44) rfl ?_
      show Go p e below T37 (mkF m 46 #[.val (.int p1), .val (.int p2), .val (.int p3), .val (.int p4), .val (.int p5), .val (.int p6), .val (.ref b21), .val (.int (p2 &&& (2147483647 : Int32))), .val (.int (p4 &&& (2147483647 : Int32))), .val (.int (p5 &&& (2147483647 : Int32))), .val (.int mA), .unset, .unset, .unset, .unset, .unset, .unset, .unset, .unset, .unset, .unset, .unset] [(.int p6)]) _
      refine XS.iconst X37.here hx rfl (hb hby at_46) ?_
      show Go p e below T37 (mkF m 47 #[.val (.int p1), .val (.int p2), .val (.int p3), .val (.int p4), .val (.int p5), .val (.int p6), .val (.ref b21), .val (.int (p2 &&& (2147483647 : Int32))), .val (.int (p4 &&& (2147483647 : Int32))), .val (.int (p5 &&& (2147483647 : Int32))), .val (.int mA), .unset, .unset, .unset, .unset, .unset, .unset, .unset, .unset, .unset, .unset, .unset] [(.int (5 : Int32)), (.int p6)]) _
      refine XS.iushr X37.here hx rfl (hb hby at_47) rfl ?_
      show Go p e below T37 (mkF m 48 #[.val (.int p1), .val (.int p2), .val (.int p3), .val (.int p4), .val (.int p5), .val (.int p6), .val (.ref b21), .val (.int (p2 &&& (2147483647 : Int32))), .val (.int (p4 &&& (2147483647 : Int32))), .val (.int (p5 &&& (2147483647 : Int32))), .val (.int mA), .unset, .unset, .unset, .unset, .unset, .unset, .unset, .unset, .unset, .unset, .unset] [(.int ((p6.toUInt32 >>> ((5 : Int32) &&& 31).toUInt32).toInt32))]) _
      refine XS.iconst X37.here hx rfl (hb hby at_48) ?_
      show Go p e below T37 (mkF m 49 #[.val (.int p1), .val (.int p2), .val (.int p3), .val (.int p4), .val (.int p5), .val (.int p6), .val (.ref b21), .val (.int (p2 &&& (2147483647 : Int32))), .val (.int (p4 &&& (2147483647 : Int32))), .val (.int (p5 &&& (2147483647 : Int32))), .val (.int mA), .unset, .unset, .unset, .unset, .unset, .unset, .unset, .unset, .unset, .unset, .unset] [(.int (1 : Int32)), (.int ((p6.toUInt32 >>> ((5 : Int32) &&& 31).toUInt32).toInt32))]) _
      refine XS.iand X37.here hx rfl (hb hby at_49) rfl ?_
      exact kt)
    by_cases hc44 : (((p6.toUInt32 >>> ((5 : Int32) &&& 31).toUInt32).toInt32) &&& (1 : Int32)) = (0 : Int32)
    · have q45 := fun t (kt : Go p e below T37 (mkF m 60 #[.val (.int p1), .val (.int p2), .val (.int p3), .val (.int p4), .val (.int p5), .val (.int p6), .val (.ref b21), .val (.int (p2 &&& (2147483647 : Int32))), .val (.int (p4 &&& (2147483647 : Int32))), .val (.int (p5 &&& (2147483647 : Int32))), .val (.int mA), .val (.int (0 : Int32)), .unset, .unset, .unset, .unset, .unset, .unset, .unset, .unset, .unset, .unset] []) t) => q43 t (by
        show Go p e below T37 (mkF m 50 #[.val (.int p1), .val (.int p2), .val (.int p3), .val (.int p4), .val (.int p5), .val (.int p6), .val (.ref b21), .val (.int (p2 &&& (2147483647 : Int32))), .val (.int (p4 &&& (2147483647 : Int32))), .val (.int (p5 &&& (2147483647 : Int32))), .val (.int mA), .unset, .unset, .unset, .unset, .unset, .unset, .unset, .unset, .unset, .unset, .unset] [(.int (((p6.toUInt32 >>> ((5 : Int32) &&& 31).toUInt32).toInt32) &&& (1 : Int32)))]) _
        refine XS.ifYes X37.here hx rfl (pc0 := 50) (pc' := 57) rfl (hb hby at_50) rfl ((if0 _ _).trans (teq hc44).1) (by decide) (by decide) ?_
        show Go p e below T37 (mkF m 57 #[.val (.int p1), .val (.int p2), .val (.int p3), .val (.int p4), .val (.int p5), .val (.int p6), .val (.ref b21), .val (.int (p2 &&& (2147483647 : Int32))), .val (.int (p4 &&& (2147483647 : Int32))), .val (.int (p5 &&& (2147483647 : Int32))), .val (.int mA), .unset, .unset, .unset, .unset, .unset, .unset, .unset, .unset, .unset, .unset, .unset] []) _
        refine XS.iconst X37.here hx rfl (hb hby at_57) ?_
        show Go p e below T37 (mkF m 58 #[.val (.int p1), .val (.int p2), .val (.int p3), .val (.int p4), .val (.int p5), .val (.int p6), .val (.ref b21), .val (.int (p2 &&& (2147483647 : Int32))), .val (.int (p4 &&& (2147483647 : Int32))), .val (.int (p5 &&& (2147483647 : Int32))), .val (.int mA), .unset, .unset, .unset, .unset, .unset, .unset, .unset, .unset, .unset, .unset, .unset] [(.int (0 : Int32))]) _
        refine XS.istore X37.here hx rfl (hb hby at_58) rfl (l' := #[.val (.int p1), .val (.int p2), .val (.int p3), .val (.int p4), .val (.int p5), .val (.int p6), .val (.ref b21), .val (.int (p2 &&& (2147483647 : Int32))), .val (.int (p4 &&& (2147483647 : Int32))), .val (.int (p5 &&& (2147483647 : Int32))), .val (.int mA), .val (.int (0 : Int32)), .unset, .unset, .unset, .unset, .unset, .unset, .unset, .unset, .unset, .unset]) rfl ?_
        exact kt)
      exact ⟨T37, _, (0 : Int32), X37, e37, N37, (Or.inl rfl), q45⟩
    · have q46 := fun t (kt : Go p e below T37 (mkF m 60 #[.val (.int p1), .val (.int p2), .val (.int p3), .val (.int p4), .val (.int p5), .val (.int p6), .val (.ref b21), .val (.int (p2 &&& (2147483647 : Int32))), .val (.int (p4 &&& (2147483647 : Int32))), .val (.int (p5 &&& (2147483647 : Int32))), .val (.int mA), .val (.int (1 : Int32)), .unset, .unset, .unset, .unset, .unset, .unset, .unset, .unset, .unset, .unset] []) t) => q43 t (by
        show Go p e below T37 (mkF m 50 #[.val (.int p1), .val (.int p2), .val (.int p3), .val (.int p4), .val (.int p5), .val (.int p6), .val (.ref b21), .val (.int (p2 &&& (2147483647 : Int32))), .val (.int (p4 &&& (2147483647 : Int32))), .val (.int (p5 &&& (2147483647 : Int32))), .val (.int mA), .unset, .unset, .unset, .unset, .unset, .unset, .unset, .unset, .unset, .unset, .unset] [(.int (((p6.toUInt32 >>> ((5 : Int32) &&& 31).toUInt32).toInt32) &&& (1 : Int32)))]) _
        refine XS.ifNo X37.here hx rfl (hb hby at_50) rfl ((if0 _ _).trans (feq hc44).1) ?_
        show Go p e below T37 (mkF m 53 #[.val (.int p1), .val (.int p2), .val (.int p3), .val (.int p4), .val (.int p5), .val (.int p6), .val (.ref b21), .val (.int (p2 &&& (2147483647 : Int32))), .val (.int (p4 &&& (2147483647 : Int32))), .val (.int (p5 &&& (2147483647 : Int32))), .val (.int mA), .unset, .unset, .unset, .unset, .unset, .unset, .unset, .unset, .unset, .unset, .unset] []) _
        refine XS.iconst X37.here hx rfl (hb hby at_53) ?_
        show Go p e below T37 (mkF m 54 #[.val (.int p1), .val (.int p2), .val (.int p3), .val (.int p4), .val (.int p5), .val (.int p6), .val (.ref b21), .val (.int (p2 &&& (2147483647 : Int32))), .val (.int (p4 &&& (2147483647 : Int32))), .val (.int (p5 &&& (2147483647 : Int32))), .val (.int mA), .unset, .unset, .unset, .unset, .unset, .unset, .unset, .unset, .unset, .unset, .unset] [(.int (1 : Int32))]) _
        refine XS.goto X37.here hx rfl (pc0 := 54) (pc' := 58) rfl (hb hby at_54) (by decide) (by decide) ?_
        show Go p e below T37 (mkF m 58 #[.val (.int p1), .val (.int p2), .val (.int p3), .val (.int p4), .val (.int p5), .val (.int p6), .val (.ref b21), .val (.int (p2 &&& (2147483647 : Int32))), .val (.int (p4 &&& (2147483647 : Int32))), .val (.int (p5 &&& (2147483647 : Int32))), .val (.int mA), .unset, .unset, .unset, .unset, .unset, .unset, .unset, .unset, .unset, .unset, .unset] [(.int (1 : Int32))]) _
        refine XS.istore X37.here hx rfl (hb hby at_58) rfl (l' := #[.val (.int p1), .val (.int p2), .val (.int p3), .val (.int p4), .val (.int p5), .val (.int p6), .val (.ref b21), .val (.int (p2 &&& (2147483647 : Int32))), .val (.int (p4 &&& (2147483647 : Int32))), .val (.int (p5 &&& (2147483647 : Int32))), .val (.int mA), .val (.int (1 : Int32)), .unset, .unset, .unset, .unset, .unset, .unset, .unset, .unset, .unset, .unset]) rfl ?_
        exact kt)
      exact ⟨T37, _, (1 : Int32), X37, e37, N37, (Or.inr rfl), q46⟩
  have q47 := fun t (kt : Go p e below T42 (mkF m 68 #[.val (.int p1), .val (.int p2), .val (.int p3), .val (.int p4), .val (.int p5), .val (.int p6), .val (.ref b21), .val (.int (p2 &&& (2147483647 : Int32))), .val (.int (p4 &&& (2147483647 : Int32))), .val (.int (p5 &&& (2147483647 : Int32))), .val (.int mA), .val (.int mB), .unset, .unset, .unset, .unset, .unset, .unset, .unset, .unset, .unset, .unset] [(.int p5), (.int p3), (.int p1), (.int (p6 &&& (3 : Int32)))]) t) => q42 t (by
    show Go p e below T42 (mkF m 60 #[.val (.int p1), .val (.int p2), .val (.int p3), .val (.int p4), .val (.int p5), .val (.int p6), .val (.ref b21), .val (.int (p2 &&& (2147483647 : Int32))), .val (.int (p4 &&& (2147483647 : Int32))), .val (.int (p5 &&& (2147483647 : Int32))), .val (.int mA), .val (.int mB), .unset, .unset, .unset, .unset, .unset, .unset, .unset, .unset, .unset, .unset] []) _
    refine XS.iload X42.here hx rfl (hb hby at_60) rfl ?_
    show Go p e below T42 (mkF m 62 #[.val (.int p1), .val (.int p2), .val (.int p3), .val (.int p4), .val (.int p5), .val (.int p6), .val (.ref b21), .val (.int (p2 &&& (2147483647 : Int32))), .val (.int (p4 &&& (2147483647 : Int32))), .val (.int (p5 &&& (2147483647 : Int32))), .val (.int mA), .val (.int mB), .unset, .unset, .unset, .unset, .unset, .unset, .unset, .unset, .unset, .unset] [(.int p6)]) _
    refine XS.iconst X42.here hx rfl (hb hby at_62) ?_
    show Go p e below T42 (mkF m 63 #[.val (.int p1), .val (.int p2), .val (.int p3), .val (.int p4), .val (.int p5), .val (.int p6), .val (.ref b21), .val (.int (p2 &&& (2147483647 : Int32))), .val (.int (p4 &&& (2147483647 : Int32))), .val (.int (p5 &&& (2147483647 : Int32))), .val (.int mA), .val (.int mB), .unset, .unset, .unset, .unset, .unset, .unset, .unset, .unset, .unset, .unset] [(.int (3 : Int32)), (.int p6)]) _
    refine XS.iand X42.here hx rfl (hb hby at_63) rfl ?_
    show Go p e below T42 (mkF m 64 #[.val (.int p1), .val (.int p2), .val (.int p3), .val (.int p4), .val (.int p5), .val (.int p6), .val (.ref b21), .val (.int (p2 &&& (2147483647 : Int32))), .val (.int (p4 &&& (2147483647 : Int32))), .val (.int (p5 &&& (2147483647 : Int32))), .val (.int mA), .val (.int mB), .unset, .unset, .unset, .unset, .unset, .unset, .unset, .unset, .unset, .unset] [(.int (p6 &&& (3 : Int32)))]) _
    refine XS.iloadN X42.here hx rfl (hb hby at_64) rfl ?_
    show Go p e below T42 (mkF m 65 #[.val (.int p1), .val (.int p2), .val (.int p3), .val (.int p4), .val (.int p5), .val (.int p6), .val (.ref b21), .val (.int (p2 &&& (2147483647 : Int32))), .val (.int (p4 &&& (2147483647 : Int32))), .val (.int (p5 &&& (2147483647 : Int32))), .val (.int mA), .val (.int mB), .unset, .unset, .unset, .unset, .unset, .unset, .unset, .unset, .unset, .unset] [(.int p1), (.int (p6 &&& (3 : Int32)))]) _
    refine XS.iloadN X42.here hx rfl (hb hby at_65) rfl ?_
    show Go p e below T42 (mkF m 66 #[.val (.int p1), .val (.int p2), .val (.int p3), .val (.int p4), .val (.int p5), .val (.int p6), .val (.ref b21), .val (.int (p2 &&& (2147483647 : Int32))), .val (.int (p4 &&& (2147483647 : Int32))), .val (.int (p5 &&& (2147483647 : Int32))), .val (.int mA), .val (.int mB), .unset, .unset, .unset, .unset, .unset, .unset, .unset, .unset, .unset, .unset] [(.int p3), (.int p1), (.int (p6 &&& (3 : Int32)))]) _
    refine XS.iload X42.here hx rfl (hb hby at_66) rfl ?_
    exact kt)
  obtain ⟨_, _, ⟨T48, L48, k48, n48⟩, -, X48, ⟨Lc48, hQ48, l48, y48, z48⟩, st48⟩ := Jvm.LawKit.callS X42 hx (y := (⟨"com/example/pointward/pointward/pointsto/ConstraintGraphExistingFieldPinLaw", "pickSite", "(IIII)I"⟩ : MethodName)) hown (mvT hZ (own_w hw 46 rfl)) (mvT hZ (own_w hw 47 rfl)) (mvT hZ (own_w hw 48 rfl)) (mvT hZ (own_w hw 49 rfl)) (by decide) (backOf (W := 0) (rm6 l Z a0 hw [] cx (p6 &&& (3 : Int32)) p1 p3 p5 T26.heap n0 O32 ) hZ (own_w hw 49 rfl) (own_w hw 48 rfl) (by decide) (by decide)) (g := (mkF m 68 #[.val (.int p1), .val (.int p2), .val (.int p3), .val (.int p4), .val (.int p5), .val (.int p6), .val (.ref b21), .val (.int (p2 &&& (2147483647 : Int32))), .val (.int (p4 &&& (2147483647 : Int32))), .val (.int (p5 &&& (2147483647 : Int32))), .val (.int mA), .val (.int mB), .unset, .unset, .unset, .unset, .unset, .unset, .unset, .unset, .unset, .unset] [(.int p5), (.int p3), (.int p1), (.int (p6 &&& (3 : Int32)))])) rfl (by rw [hml]; rfl) (argsL := [(.int (p6 &&& (3 : Int32))), (.int p1), (.int p3), (.int p5)]) (rest := []) (lenOf pd_7 rfl) rfl (by show 2 * 0 + _ ≤ _; exact Nat.le_of_eq rfl) (hb hby at_68) (fun _ _ => ⟨rfl, e42, (by decide : 9 + 0 ≤ _), (by decide : 94 + 0 ≤ _)⟩)
  dsimp only [Pt.U, Pt.locs, Pt.cells, Pt.slots] at X48 l48 y48 z48 st48 hQ48
  subst l48 y48 z48
  obtain ⟨r_48, rfl, Nq48, eq48, pq48_0⟩ := hQ48
  have N49 := Fr.app N42 Nq48
  have q50 := fun t (kt : Go p e below T48 (mkF m 71 #[.val (.int p1), .val (.int p2), .val (.int p3), .val (.int p4), .val (.int p5), .val (.int p6), .val (.ref b21), .val (.int (p2 &&& (2147483647 : Int32))), .val (.int (p4 &&& (2147483647 : Int32))), .val (.int (p5 &&& (2147483647 : Int32))), .val (.int mA), .val (.int mB), .unset, .unset, .unset, .unset, .unset, .unset, .unset, .unset, .unset, .unset] [(.int r_48)]) t) => q47 t (st48 t kt)
  have q51 := fun t (kt : Go p e below T48 (mkF m 85 #[.val (.int p1), .val (.int p2), .val (.int p3), .val (.int p4), .val (.int p5), .val (.int p6), .val (.ref b21), .val (.int (p2 &&& (2147483647 : Int32))), .val (.int (p4 &&& (2147483647 : Int32))), .val (.int (p5 &&& (2147483647 : Int32))), .val (.int mA), .val (.int mB), .val (.int r_48), .unset, .unset, .unset, .unset, .unset, .unset, .unset, .unset, .unset] [(.int (p5 &&& (2147483647 : Int32))), (.int (p4 &&& (2147483647 : Int32))), (.int (p2 &&& (2147483647 : Int32))), (.int (((p6.toUInt32 >>> ((2 : Int32) &&& 31).toUInt32).toInt32) &&& (3 : Int32)))]) t) => q50 t (by
    show Go p e below T48 (mkF m 71 #[.val (.int p1), .val (.int p2), .val (.int p3), .val (.int p4), .val (.int p5), .val (.int p6), .val (.ref b21), .val (.int (p2 &&& (2147483647 : Int32))), .val (.int (p4 &&& (2147483647 : Int32))), .val (.int (p5 &&& (2147483647 : Int32))), .val (.int mA), .val (.int mB), .unset, .unset, .unset, .unset, .unset, .unset, .unset, .unset, .unset, .unset] [(.int r_48)]) _
    refine XS.istore X48.here hx rfl (hb hby at_71) rfl (l' := #[.val (.int p1), .val (.int p2), .val (.int p3), .val (.int p4), .val (.int p5), .val (.int p6), .val (.ref b21), .val (.int (p2 &&& (2147483647 : Int32))), .val (.int (p4 &&& (2147483647 : Int32))), .val (.int (p5 &&& (2147483647 : Int32))), .val (.int mA), .val (.int mB), .val (.int r_48), .unset, .unset, .unset, .unset, .unset, .unset, .unset, .unset, .unset]) rfl ?_
    show Go p e below T48 (mkF m 73 #[.val (.int p1), .val (.int p2), .val (.int p3), .val (.int p4), .val (.int p5), .val (.int p6), .val (.ref b21), .val (.int (p2 &&& (2147483647 : Int32))), .val (.int (p4 &&& (2147483647 : Int32))), .val (.int (p5 &&& (2147483647 : Int32))), .val (.int mA), .val (.int mB), .val (.int r_48), .unset, .unset, .unset, .unset, .unset, .unset, .unset, .unset, .unset] []) _
    refine XS.iload X48.here hx rfl (hb hby at_73) rfl ?_
    show Go p e below T48 (mkF m 75 #[.val (.int p1), .val (.int p2), .val (.int p3), .val (.int p4), .val (.int p5), .val (.int p6), .val (.ref b21), .val (.int (p2 &&& (2147483647 : Int32))), .val (.int (p4 &&& (2147483647 : Int32))), .val (.int (p5 &&& (2147483647 : Int32))), .val (.int mA), .val (.int mB), .val (.int r_48), .unset, .unset, .unset, .unset, .unset, .unset, .unset, .unset, .unset] [(.int p6)]) _
    refine XS.iconst X48.here hx rfl (hb hby at_75) ?_
    show Go p e below T48 (mkF m 76 #[.val (.int p1), .val (.int p2), .val (.int p3), .val (.int p4), .val (.int p5), .val (.int p6), .val (.ref b21), .val (.int (p2 &&& (2147483647 : Int32))), .val (.int (p4 &&& (2147483647 : Int32))), .val (.int (p5 &&& (2147483647 : Int32))), .val (.int mA), .val (.int mB), .val (.int r_48), .unset, .unset, .unset, .unset, .unset, .unset, .unset, .unset, .unset] [(.int (2 : Int32)), (.int p6)]) _
    refine XS.iushr X48.here hx rfl (hb hby at_76) rfl ?_
    show Go p e below T48 (mkF m 77 #[.val (.int p1), .val (.int p2), .val (.int p3), .val (.int p4), .val (.int p5), .val (.int p6), .val (.ref b21), .val (.int (p2 &&& (2147483647 : Int32))), .val (.int (p4 &&& (2147483647 : Int32))), .val (.int (p5 &&& (2147483647 : Int32))), .val (.int mA), .val (.int mB), .val (.int r_48), .unset, .unset, .unset, .unset, .unset, .unset, .unset, .unset, .unset] [(.int ((p6.toUInt32 >>> ((2 : Int32) &&& 31).toUInt32).toInt32))]) _
    refine XS.iconst X48.here hx rfl (hb hby at_77) ?_
    show Go p e below T48 (mkF m 78 #[.val (.int p1), .val (.int p2), .val (.int p3), .val (.int p4), .val (.int p5), .val (.int p6), .val (.ref b21), .val (.int (p2 &&& (2147483647 : Int32))), .val (.int (p4 &&& (2147483647 : Int32))), .val (.int (p5 &&& (2147483647 : Int32))), .val (.int mA), .val (.int mB), .val (.int r_48), .unset, .unset, .unset, .unset, .unset, .unset, .unset, .unset, .unset] [(.int (3 : Int32)), (.int ((p6.toUInt32 >>> ((2 : Int32) &&& 31).toUInt32).toInt32))]) _
    refine XS.iand X48.here hx rfl (hb hby at_78) rfl ?_
    show Go p e below T48 (mkF m 79 #[.val (.int p1), .val (.int p2), .val (.int p3), .val (.int p4), .val (.int p5), .val (.int p6), .val (.ref b21), .val (.int (p2 &&& (2147483647 : Int32))), .val (.int (p4 &&& (2147483647 : Int32))), .val (.int (p5 &&& (2147483647 : Int32))), .val (.int mA), .val (.int mB), .val (.int r_48), .unset, .unset, .unset, .unset, .unset, .unset, .unset, .unset, .unset] [(.int (((p6.toUInt32 >>> ((2 : Int32) &&& 31).toUInt32).toInt32) &&& (3 : Int32)))]) _
    refine XS.iload X48.here hx rfl (hb hby at_79) rfl ?_
    show Go p e below T48 (mkF m 81 #[.val (.int p1), .val (.int p2), .val (.int p3), .val (.int p4), .val (.int p5), .val (.int p6), .val (.ref b21), .val (.int (p2 &&& (2147483647 : Int32))), .val (.int (p4 &&& (2147483647 : Int32))), .val (.int (p5 &&& (2147483647 : Int32))), .val (.int mA), .val (.int mB), .val (.int r_48), .unset, .unset, .unset, .unset, .unset, .unset, .unset, .unset, .unset] [(.int (p2 &&& (2147483647 : Int32))), (.int (((p6.toUInt32 >>> ((2 : Int32) &&& 31).toUInt32).toInt32) &&& (3 : Int32)))]) _
    refine XS.iload X48.here hx rfl (hb hby at_81) rfl ?_
    show Go p e below T48 (mkF m 83 #[.val (.int p1), .val (.int p2), .val (.int p3), .val (.int p4), .val (.int p5), .val (.int p6), .val (.ref b21), .val (.int (p2 &&& (2147483647 : Int32))), .val (.int (p4 &&& (2147483647 : Int32))), .val (.int (p5 &&& (2147483647 : Int32))), .val (.int mA), .val (.int mB), .val (.int r_48), .unset, .unset, .unset, .unset, .unset, .unset, .unset, .unset, .unset] [(.int (p4 &&& (2147483647 : Int32))), (.int (p2 &&& (2147483647 : Int32))), (.int (((p6.toUInt32 >>> ((2 : Int32) &&& 31).toUInt32).toInt32) &&& (3 : Int32)))]) _
    refine XS.iload X48.here hx rfl (hb hby at_83) rfl ?_
    exact kt)
  obtain ⟨_, _, ⟨T52, L52, k52, n52⟩, -, X52, ⟨Lc52, hQ52, l52, y52, z52⟩, st52⟩ := Jvm.LawKit.callS X48 hx (y := (⟨"com/example/pointward/pointward/pointsto/ConstraintGraphExistingFieldPinLaw", "pickSite", "(IIII)I"⟩ : MethodName)) hown (mvT hZ (own_w hw 46 rfl)) (mvT hZ (own_w hw 47 rfl)) (mvT hZ (own_w hw 48 rfl)) (mvT hZ (own_w hw 49 rfl)) (by decide) (backOf (W := 0) (rm6 l Z a0 hw [] cx (((p6.toUInt32 >>> ((2 : Int32) &&& 31).toUInt32).toInt32) &&& (3 : Int32)) (p2 &&& (2147483647 : Int32)) (p4 &&& (2147483647 : Int32)) (p5 &&& (2147483647 : Int32)) T26.heap n0 O32 ) hZ (own_w hw 49 rfl) (own_w hw 48 rfl) (by decide) (by decide)) (g := (mkF m 85 #[.val (.int p1), .val (.int p2), .val (.int p3), .val (.int p4), .val (.int p5), .val (.int p6), .val (.ref b21), .val (.int (p2 &&& (2147483647 : Int32))), .val (.int (p4 &&& (2147483647 : Int32))), .val (.int (p5 &&& (2147483647 : Int32))), .val (.int mA), .val (.int mB), .val (.int r_48), .unset, .unset, .unset, .unset, .unset, .unset, .unset, .unset, .unset] [(.int (p5 &&& (2147483647 : Int32))), (.int (p4 &&& (2147483647 : Int32))), (.int (p2 &&& (2147483647 : Int32))), (.int (((p6.toUInt32 >>> ((2 : Int32) &&& 31).toUInt32).toInt32) &&& (3 : Int32)))])) rfl (by rw [hml]; rfl) (argsL := [(.int (((p6.toUInt32 >>> ((2 : Int32) &&& 31).toUInt32).toInt32) &&& (3 : Int32))), (.int (p2 &&& (2147483647 : Int32))), (.int (p4 &&& (2147483647 : Int32))), (.int (p5 &&& (2147483647 : Int32)))]) (rest := []) (lenOf pd_7 rfl) rfl (by show 2 * 0 + _ ≤ _; exact Nat.le_of_eq rfl) (hb hby at_85) (fun _ _ => ⟨rfl, eq48, (by decide : 9 + 0 ≤ _), (by decide : 94 + 0 ≤ _)⟩)
  dsimp only [Pt.U, Pt.locs, Pt.cells, Pt.slots] at X52 l52 y52 z52 st52 hQ52
  subst l52 y52 z52
  obtain ⟨r_52, rfl, Nq52, eq52, pq52_0⟩ := hQ52
  have N53 := Fr.app N49 Nq52
  have q54 := fun t (kt : Go p e below T52 (mkF m 88 #[.val (.int p1), .val (.int p2), .val (.int p3), .val (.int p4), .val (.int p5), .val (.int p6), .val (.ref b21), .val (.int (p2 &&& (2147483647 : Int32))), .val (.int (p4 &&& (2147483647 : Int32))), .val (.int (p5 &&& (2147483647 : Int32))), .val (.int mA), .val (.int mB), .val (.int r_48), .unset, .unset, .unset, .unset, .unset, .unset, .unset, .unset, .unset] [(.int r_52)]) t) => q51 t (st52 t kt)
  have q55 := fun t (kt : Go p e below T52 (mkF m 96 #[.val (.int p1), .val (.int p2), .val (.int p3), .val (.int p4), .val (.int p5), .val (.int p6), .val (.ref b21), .val (.int (p2 &&& (2147483647 : Int32))), .val (.int (p4 &&& (2147483647 : Int32))), .val (.int (p5 &&& (2147483647 : Int32))), .val (.int mA), .val (.int mB), .val (.int r_48), .val (.int r_52), .unset, .unset, .unset, .unset, .unset, .unset, .unset, .unset] [(.int r_52), (.int r_48), (.ref b21)]) t) => q54 t (by
    show Go p e below T52 (mkF m 88 #[.val (.int p1), .val (.int p2), .val (.int p3), .val (.int p4), .val (.int p5), .val (.int p6), .val (.ref b21), .val (.int (p2 &&& (2147483647 : Int32))), .val (.int (p4 &&& (2147483647 : Int32))), .val (.int (p5 &&& (2147483647 : Int32))), .val (.int mA), .val (.int mB), .val (.int r_48), .unset, .unset, .unset, .unset, .unset, .unset, .unset, .unset, .unset] [(.int r_52)]) _
    refine XS.istore X52.here hx rfl (hb hby at_88) rfl (l' := #[.val (.int p1), .val (.int p2), .val (.int p3), .val (.int p4), .val (.int p5), .val (.int p6), .val (.ref b21), .val (.int (p2 &&& (2147483647 : Int32))), .val (.int (p4 &&& (2147483647 : Int32))), .val (.int (p5 &&& (2147483647 : Int32))), .val (.int mA), .val (.int mB), .val (.int r_48), .val (.int r_52), .unset, .unset, .unset, .unset, .unset, .unset, .unset, .unset]) rfl ?_
    show Go p e below T52 (mkF m 90 #[.val (.int p1), .val (.int p2), .val (.int p3), .val (.int p4), .val (.int p5), .val (.int p6), .val (.ref b21), .val (.int (p2 &&& (2147483647 : Int32))), .val (.int (p4 &&& (2147483647 : Int32))), .val (.int (p5 &&& (2147483647 : Int32))), .val (.int mA), .val (.int mB), .val (.int r_48), .val (.int r_52), .unset, .unset, .unset, .unset, .unset, .unset, .unset, .unset] []) _
    refine XS.aload X52.here hx rfl (hb hby at_90) rfl rfl ?_
    show Go p e below T52 (mkF m 92 #[.val (.int p1), .val (.int p2), .val (.int p3), .val (.int p4), .val (.int p5), .val (.int p6), .val (.ref b21), .val (.int (p2 &&& (2147483647 : Int32))), .val (.int (p4 &&& (2147483647 : Int32))), .val (.int (p5 &&& (2147483647 : Int32))), .val (.int mA), .val (.int mB), .val (.int r_48), .val (.int r_52), .unset, .unset, .unset, .unset, .unset, .unset, .unset, .unset] [(.ref b21)]) _
    refine XS.iload X52.here hx rfl (hb hby at_92) rfl ?_
    show Go p e below T52 (mkF m 94 #[.val (.int p1), .val (.int p2), .val (.int p3), .val (.int p4), .val (.int p5), .val (.int p6), .val (.ref b21), .val (.int (p2 &&& (2147483647 : Int32))), .val (.int (p4 &&& (2147483647 : Int32))), .val (.int (p5 &&& (2147483647 : Int32))), .val (.int mA), .val (.int mB), .val (.int r_48), .val (.int r_52), .unset, .unset, .unset, .unset, .unset, .unset, .unset, .unset] [(.int r_48), (.ref b21)]) _
    refine XS.iload X52.here hx rfl (hb hby at_94) rfl ?_
    exact kt)
  obtain ⟨cq57, kq57, q57a, q57b, q57c⟩ := isOf hZ eq52 fq26_0
  obtain ⟨_, _, ⟨T56, L56, k56, n56⟩, -, X56, ⟨Lc56, hQ56, l56, y56, z56⟩, st56⟩ := X52.virtualBack hx (y := (⟨"com/example/pointward/pointward/pointsto/ConstraintGraph", "existingField", "(II)Lcom/example/pointward/pointward/pointsto/ConstraintGraph$Node;"⟩ : MethodName)) (z := (⟨"com/example/pointward/pointward/pointsto/ConstraintGraph", "existingField", "(II)Lcom/example/pointward/pointward/pointsto/ConstraintGraph$Node;"⟩ : MethodName)) hown (mvT hZ (own_w hw 50 rfl)) (mvT hZ (own_w hw 51 rfl)) (notFace_of_selects (args := #[]) (mvT hZ (own_w hw 53 rfl))) (mvT hZ (own_w hw 53 rfl)) (mvT hZ (own_w hw 52 rfl)) (by decide) (backOf (W := 0) (rm7 l Z a0 hw [] cx b21 r_48 r_52 tl_26 ka_26 va_26 (fun _ => none) 0 T26.heap n0 O32 fq26_1 fq26_3 (by omega : 0 ≤ 3)) hZ (own_w hw 54 rfl) (own_w hw 2 rfl) (by decide) (by decide)) q57a q57c (g := (mkF m 96 #[.val (.int p1), .val (.int p2), .val (.int p3), .val (.int p4), .val (.int p5), .val (.int p6), .val (.ref b21), .val (.int (p2 &&& (2147483647 : Int32))), .val (.int (p4 &&& (2147483647 : Int32))), .val (.int (p5 &&& (2147483647 : Int32))), .val (.int mA), .val (.int mB), .val (.int r_48), .val (.int r_52), .unset, .unset, .unset, .unset, .unset, .unset, .unset, .unset] [(.int r_52), (.int r_48), (.ref b21)])) rfl (by rw [hml]; rfl) (Steps.refl _) (argsL := [(.int r_48), (.int r_52)]) (rest := []) (lenOf pd_8 rfl) rfl (by show 2 * 0 + _ ≤ _; exact Nat.le_of_eq rfl) (hb hby at_96) (fun _ _ => ⟨rfl, eq52, (by decide : 9 + 0 ≤ _), (by decide : 94 + 0 ≤ _)⟩)
  dsimp only [Pt.U, Pt.locs, Pt.cells, Pt.slots] at X56 l56 y56 z56 st56 hQ56
  subst l56 y56 z56
  obtain ⟨rfl, Nq56, eq56⟩ := hQ56
  have N58 := Fr.app N53 Nq56
  have q59 := fun t (kt : Go p e below T56 (mkF m 99 #[.val (.int p1), .val (.int p2), .val (.int p3), .val (.int p4), .val (.int p5), .val (.int p6), .val (.ref b21), .val (.int (p2 &&& (2147483647 : Int32))), .val (.int (p4 &&& (2147483647 : Int32))), .val (.int (p5 &&& (2147483647 : Int32))), .val (.int mA), .val (.int mB), .val (.int r_48), .val (.int r_52), .unset, .unset, .unset, .unset, .unset, .unset, .unset, .unset] [(own_val ((fun _ => none) (own_key r_48 r_52)))]) t) => q55 t (st56.trans kt)
  have q60 : ∀ t, Go p e below T56 (mkF m 99 #[.val (.int p1), .val (.int p2), .val (.int p3), .val (.int p4), .val (.int p5), .val (.int p6), .val (.ref b21), .val (.int (p2 &&& (2147483647 : Int32))), .val (.int (p4 &&& (2147483647 : Int32))), .val (.int (p5 &&& (2147483647 : Int32))), .val (.int mA), .val (.int mB), .val (.int r_48), .val (.int r_52), .unset, .unset, .unset, .unset, .unset, .unset, .unset, .unset] [.null]) t → Go p e below s₁ (entryFrame m #[(.int p1), (.int p2), (.int p3), (.int p4), (.int p5), (.int p6)] maxLocals) t := fun t kt => q59 t kt
  have q61 := fun t (kt : Go p e below T56 (mkF m 111 #[.val (.int p1), .val (.int p2), .val (.int p3), .val (.int p4), .val (.int p5), .val (.int p6), .val (.ref b21), .val (.int (p2 &&& (2147483647 : Int32))), .val (.int (p4 &&& (2147483647 : Int32))), .val (.int (p5 &&& (2147483647 : Int32))), .val (.int mA), .val (.int mB), .val (.int r_48), .val (.int r_52), .val .null, .val .null, .unset, .unset, .unset, .unset, .unset, .unset] []) t) => q60 t (by
    show Go p e below T56 (mkF m 99 #[.val (.int p1), .val (.int p2), .val (.int p3), .val (.int p4), .val (.int p5), .val (.int p6), .val (.ref b21), .val (.int (p2 &&& (2147483647 : Int32))), .val (.int (p4 &&& (2147483647 : Int32))), .val (.int (p5 &&& (2147483647 : Int32))), .val (.int mA), .val (.int mB), .val (.int r_48), .val (.int r_52), .unset, .unset, .unset, .unset, .unset, .unset, .unset, .unset] [.null]) _
    refine XS.astore X56.here hx rfl (hb hby at_99) rfl rfl (l' := #[.val (.int p1), .val (.int p2), .val (.int p3), .val (.int p4), .val (.int p5), .val (.int p6), .val (.ref b21), .val (.int (p2 &&& (2147483647 : Int32))), .val (.int (p4 &&& (2147483647 : Int32))), .val (.int (p5 &&& (2147483647 : Int32))), .val (.int mA), .val (.int mB), .val (.int r_48), .val (.int r_52), .val .null, .unset, .unset, .unset, .unset, .unset, .unset, .unset]) rfl ?_
    show Go p e below T56 (mkF m 101 #[.val (.int p1), .val (.int p2), .val (.int p3), .val (.int p4), .val (.int p5), .val (.int p6), .val (.ref b21), .val (.int (p2 &&& (2147483647 : Int32))), .val (.int (p4 &&& (2147483647 : Int32))), .val (.int (p5 &&& (2147483647 : Int32))), .val (.int mA), .val (.int mB), .val (.int r_48), .val (.int r_52), .val .null, .unset, .unset, .unset, .unset, .unset, .unset, .unset] []) _
    refine XS.aload X56.here hx rfl (hb hby at_101) rfl rfl ?_
    show Go p e below T56 (mkF m 103 #[.val (.int p1), .val (.int p2), .val (.int p3), .val (.int p4), .val (.int p5), .val (.int p6), .val (.ref b21), .val (.int (p2 &&& (2147483647 : Int32))), .val (.int (p4 &&& (2147483647 : Int32))), .val (.int (p5 &&& (2147483647 : Int32))), .val (.int mA), .val (.int mB), .val (.int r_48), .val (.int r_52), .val .null, .unset, .unset, .unset, .unset, .unset, .unset, .unset] [.null]) _
    refine XS.ifnullYes X56.here hx rfl (pc0 := 103) (pc' := 108) rfl (hb hby at_103) rfl (by decide) (by decide) ?_
    show Go p e below T56 (mkF m 108 #[.val (.int p1), .val (.int p2), .val (.int p3), .val (.int p4), .val (.int p5), .val (.int p6), .val (.ref b21), .val (.int (p2 &&& (2147483647 : Int32))), .val (.int (p4 &&& (2147483647 : Int32))), .val (.int (p5 &&& (2147483647 : Int32))), .val (.int mA), .val (.int mB), .val (.int r_48), .val (.int r_52), .val .null, .unset, .unset, .unset, .unset, .unset, .unset, .unset] []) _
    refine XS.aconstNull X56.here hx rfl (hb hby at_108) ?_
    show Go p e below T56 (mkF m 109 #[.val (.int p1), .val (.int p2), .val (.int p3), .val (.int p4), .val (.int p5), .val (.int p6), .val (.ref b21), .val (.int (p2 &&& (2147483647 : Int32))), .val (.int (p4 &&& (2147483647 : Int32))), .val (.int (p5 &&& (2147483647 : Int32))), .val (.int mA), .val (.int mB), .val (.int r_48), .val (.int r_52), .val .null, .unset, .unset, .unset, .unset, .unset, .unset, .unset] [.null]) _
    refine XS.astore X56.here hx rfl (hb hby at_109) rfl rfl (l' := #[.val (.int p1), .val (.int p2), .val (.int p3), .val (.int p4), .val (.int p5), .val (.int p6), .val (.ref b21), .val (.int (p2 &&& (2147483647 : Int32))), .val (.int (p4 &&& (2147483647 : Int32))), .val (.int (p5 &&& (2147483647 : Int32))), .val (.int mA), .val (.int mB), .val (.int r_48), .val (.int r_52), .val .null, .val .null, .unset, .unset, .unset, .unset, .unset, .unset]) rfl ?_
    exact kt)
  obtain ⟨T62, h62, lo62, oa, M1, n1, z1, X62, e62, O62, N62, mf62_0, mf62_1, mf62_2, mf62_3, mp62_0, mp62_1, mp62_2, q62⟩ : ∃ (T62 : State) (h62 : Heap) (lo62 : List Loc) (oa : Option Addr) (M1 : Int64 → Option Addr) (n1 : Nat) (z1 : Int32), Stand p l e room_1 s m #[(.int p1), (.int p2), (.int p3), (.int p4), (.int p5), (.int p6)] below meth c T62 lo62 13 107 ∧ T62.heap = h62 ∧ Old Z n0 h62 ∧ Fr n0 lo62 ∧ Exa Z h62 b21 "com/example/pointward/pointward/pointsto/ConstraintGraph" ∧ Fld Z h62 b21 "com/example/pointward/pointward/pointsto/ConstraintGraph" "fields" "Lcom/example/pointward/pointward/pointsto/LongTable;" (.ref tl_26) ∧ Fld Z h62 b21 "com/example/pointward/pointward/pointsto/ConstraintGraph" "nodeCount" "I" (.int z1) ∧ Tb Z h62 tl_26 ka_26 va_26 M1 n1 ∧ (∀ k, M1 k = if mA = (1 : Int32) ∧ k = (own_key p1 (p2 &&& (2147483647 : Int32))) then oa else none) ∧ (∀ x, oa = some x → x < h62.size) ∧ (n1 ≤ 1) ∧ ∀ t, Go p e below T62 (mkF m 126 #[.val (.int p1), .val (.int p2), .val (.int p3), .val (.int p4), .val (.int p5), .val (.int p6), .val (.ref b21), .val (.int (p2 &&& (2147483647 : Int32))), .val (.int (p4 &&& (2147483647 : Int32))), .val (.int (p5 &&& (2147483647 : Int32))), .val (.int mA), .val (.int mB), .val (.int r_48), .val (.int r_52), .val .null, .val (own_val oa), .unset, .unset, .unset, .unset, .unset, .unset] []) t → Go p e below s₁ (entryFrame m #[(.int p1), (.int p2), (.int p3), (.int p4), (.int p5), (.int p6)] maxLocals) t := by
    skip
    have q63 := fun t (kt : Go p e below T56 (mkF m 113 #[.val (.int p1), .val (.int p2), .val (.int p3), .val (.int p4), .val (.int p5), .val (.int p6), .val (.ref b21), .val (.int (p2 &&& (2147483647 : Int32))), .val (.int (p4 &&& (2147483647 : Int32))), .val (.int (p5 &&& (2147483647 : Int32))), .val (.int mA), .val (.int mB), .val (.int r_48), .val (.int r_52), .val .null, .val .null, .unset, .unset, .unset, .unset, .unset, .unset] [(.int mA)]) t) => q61 t (by
      show Go p e below T56 (mkF m 111 #[.val (.int p1), .val (.int p2), .val (.int p3), .val (.int p4), .val (.int p5), .val (.int p6), .val (.ref b21), .val (.int (p2 &&& (2147483647 : Int32))), .val (.int (p4 &&& (2147483647 : Int32))), .val (.int (p5 &&& (2147483647 : Int32))), .val (.int mA), .val (.int mB), .val (.int r_48), .val (.int r_52), .val .null, .val .null, .unset, .unset, .unset, .unset, .unset, .unset] []) _
      refine XS.iload X56.here hx rfl (hb hby at_111) rfl ?_
      exact kt)
    by_cases hc64 : mA = (0 : Int32)
    · have q65 := fun t (kt : Go p e below T56 (mkF m 126 #[.val (.int p1), .val (.int p2), .val (.int p3), .val (.int p4), .val (.int p5), .val (.int p6), .val (.ref b21), .val (.int (p2 &&& (2147483647 : Int32))), .val (.int (p4 &&& (2147483647 : Int32))), .val (.int (p5 &&& (2147483647 : Int32))), .val (.int mA), .val (.int mB), .val (.int r_48), .val (.int r_52), .val .null, .val .null, .unset, .unset, .unset, .unset, .unset, .unset] []) t) => q63 t (by
        show Go p e below T56 (mkF m 113 #[.val (.int p1), .val (.int p2), .val (.int p3), .val (.int p4), .val (.int p5), .val (.int p6), .val (.ref b21), .val (.int (p2 &&& (2147483647 : Int32))), .val (.int (p4 &&& (2147483647 : Int32))), .val (.int (p5 &&& (2147483647 : Int32))), .val (.int mA), .val (.int mB), .val (.int r_48), .val (.int r_52), .val .null, .val .null, .unset, .unset, .unset, .unset, .unset, .unset] [(.int mA)]) _
        refine XS.ifYes X56.here hx rfl (pc0 := 113) (pc' := 126) rfl (hb hby at_113) rfl ((if0 _ _).trans (teq hc64).1) (by decide) (by decide) ?_
        exact kt)
      exact ⟨T56, T26.heap, _, none, (fun _ => none), 0, (0 : Int32), X56.mono (by decide) (by decide), eq56, O32, N58, fq26_0, fq26_1, fq26_2, fq26_3, (own_q0 (M := fun _ => none) (o := none) hc64), (fun x q => by cases q), (by decide), q65⟩
    · have q66 := fun t (kt : Go p e below T56 (mkF m 121 #[.val (.int p1), .val (.int p2), .val (.int p3), .val (.int p4), .val (.int p5), .val (.int p6), .val (.ref b21), .val (.int (p2 &&& (2147483647 : Int32))), .val (.int (p4 &&& (2147483647 : Int32))), .val (.int (p5 &&& (2147483647 : Int32))), .val (.int mA), .val (.int mB), .val (.int r_48), .val (.int r_52), .val .null, .val .null, .unset, .unset, .unset, .unset, .unset, .unset] [(.int (p2 &&& (2147483647 : Int32))), (.int p1), (.ref b21)]) t) => q63 t (by
        show Go p e below T56 (mkF m 113 #[.val (.int p1), .val (.int p2), .val (.int p3), .val (.int p4), .val (.int p5), .val (.int p6), .val (.ref b21), .val (.int (p2 &&& (2147483647 : Int32))), .val (.int (p4 &&& (2147483647 : Int32))), .val (.int (p5 &&& (2147483647 : Int32))), .val (.int mA), .val (.int mB), .val (.int r_48), .val (.int r_52), .val .null, .val .null, .unset, .unset, .unset, .unset, .unset, .unset] [(.int mA)]) _
        refine XS.ifNo X56.here hx rfl (hb hby at_113) rfl ((if0 _ _).trans (feq hc64).1) ?_
        show Go p e below T56 (mkF m 116 #[.val (.int p1), .val (.int p2), .val (.int p3), .val (.int p4), .val (.int p5), .val (.int p6), .val (.ref b21), .val (.int (p2 &&& (2147483647 : Int32))), .val (.int (p4 &&& (2147483647 : Int32))), .val (.int (p5 &&& (2147483647 : Int32))), .val (.int mA), .val (.int mB), .val (.int r_48), .val (.int r_52), .val .null, .val .null, .unset, .unset, .unset, .unset, .unset, .unset] []) _
        refine XS.aload X56.here hx rfl (hb hby at_116) rfl rfl ?_
        show Go p e below T56 (mkF m 118 #[.val (.int p1), .val (.int p2), .val (.int p3), .val (.int p4), .val (.int p5), .val (.int p6), .val (.ref b21), .val (.int (p2 &&& (2147483647 : Int32))), .val (.int (p4 &&& (2147483647 : Int32))), .val (.int (p5 &&& (2147483647 : Int32))), .val (.int mA), .val (.int mB), .val (.int r_48), .val (.int r_52), .val .null, .val .null, .unset, .unset, .unset, .unset, .unset, .unset] [(.ref b21)]) _
        refine XS.iloadN X56.here hx rfl (hb hby at_118) rfl ?_
        show Go p e below T56 (mkF m 119 #[.val (.int p1), .val (.int p2), .val (.int p3), .val (.int p4), .val (.int p5), .val (.int p6), .val (.ref b21), .val (.int (p2 &&& (2147483647 : Int32))), .val (.int (p4 &&& (2147483647 : Int32))), .val (.int (p5 &&& (2147483647 : Int32))), .val (.int mA), .val (.int mB), .val (.int r_48), .val (.int r_52), .val .null, .val .null, .unset, .unset, .unset, .unset, .unset, .unset] [(.int p1), (.ref b21)]) _
        refine XS.iload X56.here hx rfl (hb hby at_119) rfl ?_
        exact kt)
      obtain ⟨cq68, kq68, q68a, q68b, q68c⟩ := isOf hZ eq56 fq26_0
      obtain ⟨_, _, ⟨T67, L67, k67, n67⟩, -, X67, ⟨Lc67, hQ67, l67, y67, z67⟩, st67⟩ := X56.virtualBack hx (y := (⟨"com/example/pointward/pointward/pointsto/ConstraintGraph", "field", "(II)Lcom/example/pointward/pointward/pointsto/ConstraintGraph$Node;"⟩ : MethodName)) (z := (⟨"com/example/pointward/pointward/pointsto/ConstraintGraph", "field", "(II)Lcom/example/pointward/pointward/pointsto/ConstraintGraph$Node;"⟩ : MethodName)) hown (mvT hZ (own_w hw 64 rfl)) (mvT hZ (own_w hw 65 rfl)) (notFace_of_selects (args := #[]) (mvT hZ (own_w hw 67 rfl))) (mvT hZ (own_w hw 67 rfl)) (mvT hZ (own_w hw 66 rfl)) (by decide) (backOf (W := 0) (rm10 l Z a0 hw [] cx b21 p1 (p2 &&& (2147483647 : Int32)) tl_26 ka_26 va_26 (fun _ => none) 0 (0 : Int32) T26.heap n0 O32 fq26_0 fq26_1 fq26_2 fq26_3 gg22 gg29 gg30 gg31 (by omega : 0 ≤ 2) ne33 ne34 ne35) hZ (own_w hw 68 rfl) (own_w hw 2 rfl) (by decide) (by decide)) q68a q68c (g := (mkF m 121 #[.val (.int p1), .val (.int p2), .val (.int p3), .val (.int p4), .val (.int p5), .val (.int p6), .val (.ref b21), .val (.int (p2 &&& (2147483647 : Int32))), .val (.int (p4 &&& (2147483647 : Int32))), .val (.int (p5 &&& (2147483647 : Int32))), .val (.int mA), .val (.int mB), .val (.int r_48), .val (.int r_52), .val .null, .val .null, .unset, .unset, .unset, .unset, .unset, .unset] [(.int (p2 &&& (2147483647 : Int32))), (.int p1), (.ref b21)])) rfl (by rw [hml]; rfl) (Steps.refl _) (argsL := [(.int p1), (.int (p2 &&& (2147483647 : Int32)))]) (rest := []) (lenOf pd_8 rfl) rfl (by show 2 * 0 + _ ≤ _; exact Nat.le_of_eq rfl) (hb hby at_121) (fun _ _ => ⟨rfl, eq56, (by decide : 9 + 4 ≤ _), (by decide : 94 + 13 ≤ _)⟩)
      dsimp only [Pt.U, Pt.locs, Pt.cells, Pt.slots] at X67 l67 y67 z67 st67 hQ67
      subst l67 y67 z67
      obtain ⟨b_67, M'_67, n'_67, z'_67, rfl, Nq67, Kq67, fq67_0, fq67_1, fq67_2, fq67_3, pq67_0⟩ := hQ67
      have N69 := Fr.app N58 Nq67
      have q70 := fun t (kt : Go p e below T67 (mkF m 124 #[.val (.int p1), .val (.int p2), .val (.int p3), .val (.int p4), .val (.int p5), .val (.int p6), .val (.ref b21), .val (.int (p2 &&& (2147483647 : Int32))), .val (.int (p4 &&& (2147483647 : Int32))), .val (.int (p5 &&& (2147483647 : Int32))), .val (.int mA), .val (.int mB), .val (.int r_48), .val (.int r_52), .val .null, .val .null, .unset, .unset, .unset, .unset, .unset, .unset] [(.ref b_67)]) t) => q66 t (st67.trans kt)
      have O71 : Old Z n0 T67.heap := O32.keep Kq67 (allS gg22 (allS gg29 (allS gg30 (allS gg31 all0))))
      have q72 := fun t (kt : Go p e below T67 (mkF m 126 #[.val (.int p1), .val (.int p2), .val (.int p3), .val (.int p4), .val (.int p5), .val (.int p6), .val (.ref b21), .val (.int (p2 &&& (2147483647 : Int32))), .val (.int (p4 &&& (2147483647 : Int32))), .val (.int (p5 &&& (2147483647 : Int32))), .val (.int mA), .val (.int mB), .val (.int r_48), .val (.int r_52), .val .null, .val (.ref b_67), .unset, .unset, .unset, .unset, .unset, .unset] []) t) => q70 t (by
        show Go p e below T67 (mkF m 124 #[.val (.int p1), .val (.int p2), .val (.int p3), .val (.int p4), .val (.int p5), .val (.int p6), .val (.ref b21), .val (.int (p2 &&& (2147483647 : Int32))), .val (.int (p4 &&& (2147483647 : Int32))), .val (.int (p5 &&& (2147483647 : Int32))), .val (.int mA), .val (.int mB), .val (.int r_48), .val (.int r_52), .val .null, .val .null, .unset, .unset, .unset, .unset, .unset, .unset] [(.ref b_67)]) _
        refine XS.astore X67.here hx rfl (hb hby at_124) rfl rfl (l' := #[.val (.int p1), .val (.int p2), .val (.int p3), .val (.int p4), .val (.int p5), .val (.int p6), .val (.ref b21), .val (.int (p2 &&& (2147483647 : Int32))), .val (.int (p4 &&& (2147483647 : Int32))), .val (.int (p5 &&& (2147483647 : Int32))), .val (.int mA), .val (.int mB), .val (.int r_48), .val (.int r_52), .val .null, .val (.ref b_67), .unset, .unset, .unset, .unset, .unset, .unset]) rfl ?_
        exact kt)
      have f73 : Exa Z T67.heap b21 "com/example/pointward/pointward/pointsto/ConstraintGraph" := (fq26_0.keep Kq67)
      exact ⟨T67, T67.heap, _, (some b_67), M'_67, n'_67, z'_67, X67.mono (by decide) (by decide), rfl, O71, N69, f73, fq67_0, fq67_1, fq67_2, (own_q1 (M := fun _ => none) mp37_0 hc64 (own_stepM (M := fun _ => none) pq67_0).1), (fun x q => by cases q; exact fq67_3.lt), (own_stepM (M := fun _ => none) pq67_0).2, q72⟩
  have q74 := fun t (kt : Go p e below T62 (mkF m 129 #[.val (.int p1), .val (.int p2), .val (.int p3), .val (.int p4), .val (.int p5), .val (.int p6), .val (.ref b21), .val (.int (p2 &&& (2147483647 : Int32))), .val (.int (p4 &&& (2147483647 : Int32))), .val (.int (p5 &&& (2147483647 : Int32))), .val (.int mA), .val (.int mB), .val (.int r_48), .val (.int r_52), .val .null, .val (own_val oa), .val .null, .unset, .unset, .unset, .unset, .unset] []) t) => q62 t (by
    show Go p e below T62 (mkF m 126 #[.val (.int p1), .val (.int p2), .val (.int p3), .val (.int p4), .val (.int p5), .val (.int p6), .val (.ref b21), .val (.int (p2 &&& (2147483647 : Int32))), .val (.int (p4 &&& (2147483647 : Int32))), .val (.int (p5 &&& (2147483647 : Int32))), .val (.int mA), .val (.int mB), .val (.int r_48), .val (.int r_52), .val .null, .val (own_val oa), .unset, .unset, .unset, .unset, .unset, .unset] []) _
    refine XS.aconstNull X62.here hx rfl (hb hby at_126) ?_
    show Go p e below T62 (mkF m 127 #[.val (.int p1), .val (.int p2), .val (.int p3), .val (.int p4), .val (.int p5), .val (.int p6), .val (.ref b21), .val (.int (p2 &&& (2147483647 : Int32))), .val (.int (p4 &&& (2147483647 : Int32))), .val (.int (p5 &&& (2147483647 : Int32))), .val (.int mA), .val (.int mB), .val (.int r_48), .val (.int r_52), .val .null, .val (own_val oa), .unset, .unset, .unset, .unset, .unset, .unset] [.null]) _
    refine XS.astore X62.here hx rfl (hb hby at_127) rfl rfl (l' := #[.val (.int p1), .val (.int p2), .val (.int p3), .val (.int p4), .val (.int p5), .val (.int p6), .val (.ref b21), .val (.int (p2 &&& (2147483647 : Int32))), .val (.int (p4 &&& (2147483647 : Int32))), .val (.int (p5 &&& (2147483647 : Int32))), .val (.int mA), .val (.int mB), .val (.int r_48), .val (.int r_52), .val .null, .val (own_val oa), .val .null, .unset, .unset, .unset, .unset, .unset]) rfl ?_
    exact kt)
  obtain ⟨T75, h75, lo75, ob, M2, n2, z2, X75, e75, O75, N75, mf75_0, mf75_1, mf75_2, mf75_3, mp75_0, mp75_1, mp75_2, mp75_3, q75⟩ : ∃ (T75 : State) (h75 : Heap) (lo75 : List Loc) (ob : Option Addr) (M2 : Int64 → Option Addr) (n2 : Nat) (z2 : Int32), Stand p l e room_1 s m #[(.int p1), (.int p2), (.int p3), (.int p4), (.int p5), (.int p6)] below meth c T75 lo75 17 120 ∧ T75.heap = h75 ∧ Old Z n0 h75 ∧ Fr n0 lo75 ∧ Exa Z h75 b21 "com/example/pointward/pointward/pointsto/ConstraintGraph" ∧ Fld Z h75 b21 "com/example/pointward/pointward/pointsto/ConstraintGraph" "fields" "Lcom/example/pointward/pointward/pointsto/LongTable;" (.ref tl_26) ∧ Fld Z h75 b21 "com/example/pointward/pointward/pointsto/ConstraintGraph" "nodeCount" "I" (.int z2) ∧ Tb Z h75 tl_26 ka_26 va_26 M2 n2 ∧ (∀ k, M2 k = if mB = (1 : Int32) ∧ k = (own_key p3 (p4 &&& (2147483647 : Int32))) then ob else M1 k) ∧ (∀ x, oa = some x → x < h75.size) ∧ (∀ x, ob = some x → x < h75.size) ∧ (n2 ≤ 2) ∧ ∀ t, Go p e below T75 (mkF m 144 #[.val (.int p1), .val (.int p2), .val (.int p3), .val (.int p4), .val (.int p5), .val (.int p6), .val (.ref b21), .val (.int (p2 &&& (2147483647 : Int32))), .val (.int (p4 &&& (2147483647 : Int32))), .val (.int (p5 &&& (2147483647 : Int32))), .val (.int mA), .val (.int mB), .val (.int r_48), .val (.int r_52), .val .null, .val (own_val oa), .val (own_val ob), .unset, .unset, .unset, .unset, .unset] []) t → Go p e below s₁ (entryFrame m #[(.int p1), (.int p2), (.int p3), (.int p4), (.int p5), (.int p6)] maxLocals) t := by
    skip
    have q76 := fun t (kt : Go p e below T62 (mkF m 131 #[.val (.int p1), .val (.int p2), .val (.int p3), .val (.int p4), .val (.int p5), .val (.int p6), .val (.ref b21), .val (.int (p2 &&& (2147483647 : Int32))), .val (.int (p4 &&& (2147483647 : Int32))), .val (.int (p5 &&& (2147483647 : Int32))), .val (.int mA), .val (.int mB), .val (.int r_48), .val (.int r_52), .val .null, .val (own_val oa), .val .null, .unset, .unset, .unset, .unset, .unset] [(.int mB)]) t) => q74 t (by
      show Go p e below T62 (mkF m 129 #[.val (.int p1), .val (.int p2), .val (.int p3), .val (.int p4), .val (.int p5), .val (.int p6), .val (.ref b21), .val (.int (p2 &&& (2147483647 : Int32))), .val (.int (p4 &&& (2147483647 : Int32))), .val (.int (p5 &&& (2147483647 : Int32))), .val (.int mA), .val (.int mB), .val (.int r_48), .val (.int r_52), .val .null, .val (own_val oa), .val .null, .unset, .unset, .unset, .unset, .unset] []) _
      refine XS.iload X62.here hx rfl (hb hby at_129) rfl ?_
      exact kt)
    by_cases hc77 : mB = (0 : Int32)
    · have q78 := fun t (kt : Go p e below T62 (mkF m 144 #[.val (.int p1), .val (.int p2), .val (.int p3), .val (.int p4), .val (.int p5), .val (.int p6), .val (.ref b21), .val (.int (p2 &&& (2147483647 : Int32))), .val (.int (p4 &&& (2147483647 : Int32))), .val (.int (p5 &&& (2147483647 : Int32))), .val (.int mA), .val (.int mB), .val (.int r_48), .val (.int r_52), .val .null, .val (own_val oa), .val .null, .unset, .unset, .unset, .unset, .unset] []) t) => q76 t (by
        show Go p e below T62 (mkF m 131 #[.val (.int p1), .val (.int p2), .val (.int p3), .val (.int p4), .val (.int p5), .val (.int p6), .val (.ref b21), .val (.int (p2 &&& (2147483647 : Int32))), .val (.int (p4 &&& (2147483647 : Int32))), .val (.int (p5 &&& (2147483647 : Int32))), .val (.int mA), .val (.int mB), .val (.int r_48), .val (.int r_52), .val .null, .val (own_val oa), .val .null, .unset, .unset, .unset, .unset, .unset] [(.int mB)]) _
        refine XS.ifYes X62.here hx rfl (pc0 := 131) (pc' := 144) rfl (hb hby at_131) rfl ((if0 _ _).trans (teq hc77).1) (by decide) (by decide) ?_
        exact kt)
      exact ⟨T62, h62, _, none, M1, n1, z1, X62.mono (by decide) (by decide), e62, O62, N62, mf62_0, mf62_1, mf62_2, mf62_3, (own_q0 (M := M1) (o := none) hc77), mp62_1, (fun x q => by cases q), (by omega), q78⟩
    · have q79 := fun t (kt : Go p e below T62 (mkF m 139 #[.val (.int p1), .val (.int p2), .val (.int p3), .val (.int p4), .val (.int p5), .val (.int p6), .val (.ref b21), .val (.int (p2 &&& (2147483647 : Int32))), .val (.int (p4 &&& (2147483647 : Int32))), .val (.int (p5 &&& (2147483647 : Int32))), .val (.int mA), .val (.int mB), .val (.int r_48), .val (.int r_52), .val .null, .val (own_val oa), .val .null, .unset, .unset, .unset, .unset, .unset] [(.int (p4 &&& (2147483647 : Int32))), (.int p3), (.ref b21)]) t) => q76 t (by
        show Go p e below T62 (mkF m 131 #[.val (.int p1), .val (.int p2), .val (.int p3), .val (.int p4), .val (.int p5), .val (.int p6), .val (.ref b21), .val (.int (p2 &&& (2147483647 : Int32))), .val (.int (p4 &&& (2147483647 : Int32))), .val (.int (p5 &&& (2147483647 : Int32))), .val (.int mA), .val (.int mB), .val (.int r_48), .val (.int r_52), .val .null, .val (own_val oa), .val .null, .unset, .unset, .unset, .unset, .unset] [(.int mB)]) _
        refine XS.ifNo X62.here hx rfl (hb hby at_131) rfl ((if0 _ _).trans (feq hc77).1) ?_
        show Go p e below T62 (mkF m 134 #[.val (.int p1), .val (.int p2), .val (.int p3), .val (.int p4), .val (.int p5), .val (.int p6), .val (.ref b21), .val (.int (p2 &&& (2147483647 : Int32))), .val (.int (p4 &&& (2147483647 : Int32))), .val (.int (p5 &&& (2147483647 : Int32))), .val (.int mA), .val (.int mB), .val (.int r_48), .val (.int r_52), .val .null, .val (own_val oa), .val .null, .unset, .unset, .unset, .unset, .unset] []) _
        refine XS.aload X62.here hx rfl (hb hby at_134) rfl rfl ?_
        show Go p e below T62 (mkF m 136 #[.val (.int p1), .val (.int p2), .val (.int p3), .val (.int p4), .val (.int p5), .val (.int p6), .val (.ref b21), .val (.int (p2 &&& (2147483647 : Int32))), .val (.int (p4 &&& (2147483647 : Int32))), .val (.int (p5 &&& (2147483647 : Int32))), .val (.int mA), .val (.int mB), .val (.int r_48), .val (.int r_52), .val .null, .val (own_val oa), .val .null, .unset, .unset, .unset, .unset, .unset] [(.ref b21)]) _
        refine XS.iloadN X62.here hx rfl (hb hby at_136) rfl ?_
        show Go p e below T62 (mkF m 137 #[.val (.int p1), .val (.int p2), .val (.int p3), .val (.int p4), .val (.int p5), .val (.int p6), .val (.ref b21), .val (.int (p2 &&& (2147483647 : Int32))), .val (.int (p4 &&& (2147483647 : Int32))), .val (.int (p5 &&& (2147483647 : Int32))), .val (.int mA), .val (.int mB), .val (.int r_48), .val (.int r_52), .val .null, .val (own_val oa), .val .null, .unset, .unset, .unset, .unset, .unset] [(.int p3), (.ref b21)]) _
        refine XS.iload X62.here hx rfl (hb hby at_137) rfl ?_
        exact kt)
      obtain ⟨cq81, kq81, q81a, q81b, q81c⟩ := isOf hZ e62 mf62_0
      obtain ⟨_, _, ⟨T80, L80, k80, n80⟩, -, X80, ⟨Lc80, hQ80, l80, y80, z80⟩, st80⟩ := X62.virtualBack hx (y := (⟨"com/example/pointward/pointward/pointsto/ConstraintGraph", "field", "(II)Lcom/example/pointward/pointward/pointsto/ConstraintGraph$Node;"⟩ : MethodName)) (z := (⟨"com/example/pointward/pointward/pointsto/ConstraintGraph", "field", "(II)Lcom/example/pointward/pointward/pointsto/ConstraintGraph$Node;"⟩ : MethodName)) hown (mvT hZ (own_w hw 64 rfl)) (mvT hZ (own_w hw 65 rfl)) (notFace_of_selects (args := #[]) (mvT hZ (own_w hw 67 rfl))) (mvT hZ (own_w hw 67 rfl)) (mvT hZ (own_w hw 66 rfl)) (by decide) (backOf (W := 0) (rm10 l Z a0 hw [] cx b21 p3 (p4 &&& (2147483647 : Int32)) tl_26 ka_26 va_26 M1 n1 z1 h62 n0 O62 mf62_0 mf62_1 mf62_2 mf62_3 gg22 gg29 gg30 gg31 (by omega : n1 ≤ 2) ne33 ne34 ne35) hZ (own_w hw 68 rfl) (own_w hw 2 rfl) (by decide) (by decide)) q81a q81c (g := (mkF m 139 #[.val (.int p1), .val (.int p2), .val (.int p3), .val (.int p4), .val (.int p5), .val (.int p6), .val (.ref b21), .val (.int (p2 &&& (2147483647 : Int32))), .val (.int (p4 &&& (2147483647 : Int32))), .val (.int (p5 &&& (2147483647 : Int32))), .val (.int mA), .val (.int mB), .val (.int r_48), .val (.int r_52), .val .null, .val (own_val oa), .val .null, .unset, .unset, .unset, .unset, .unset] [(.int (p4 &&& (2147483647 : Int32))), (.int p3), (.ref b21)])) rfl (by rw [hml]; rfl) (Steps.refl _) (argsL := [(.int p3), (.int (p4 &&& (2147483647 : Int32)))]) (rest := []) (lenOf pd_8 rfl) rfl (by show 2 * 0 + _ ≤ _; exact Nat.le_of_eq rfl) (hb hby at_139) (fun _ _ => ⟨rfl, e62, (by decide : 13 + 4 ≤ _), (by decide : 107 + 13 ≤ _)⟩)
      dsimp only [Pt.U, Pt.locs, Pt.cells, Pt.slots] at X80 l80 y80 z80 st80 hQ80
      subst l80 y80 z80
      obtain ⟨b_80, M'_80, n'_80, z'_80, rfl, Nq80, Kq80, fq80_0, fq80_1, fq80_2, fq80_3, pq80_0⟩ := hQ80
      have N82 := Fr.app N62 Nq80
      have q83 := fun t (kt : Go p e below T80 (mkF m 142 #[.val (.int p1), .val (.int p2), .val (.int p3), .val (.int p4), .val (.int p5), .val (.int p6), .val (.ref b21), .val (.int (p2 &&& (2147483647 : Int32))), .val (.int (p4 &&& (2147483647 : Int32))), .val (.int (p5 &&& (2147483647 : Int32))), .val (.int mA), .val (.int mB), .val (.int r_48), .val (.int r_52), .val .null, .val (own_val oa), .val .null, .unset, .unset, .unset, .unset, .unset] [(.ref b_80)]) t) => q79 t (st80.trans kt)
      have O84 : Old Z n0 T80.heap := O62.keep Kq80 (allS gg22 (allS gg29 (allS gg30 (allS gg31 all0))))
      have q85 := fun t (kt : Go p e below T80 (mkF m 144 #[.val (.int p1), .val (.int p2), .val (.int p3), .val (.int p4), .val (.int p5), .val (.int p6), .val (.ref b21), .val (.int (p2 &&& (2147483647 : Int32))), .val (.int (p4 &&& (2147483647 : Int32))), .val (.int (p5 &&& (2147483647 : Int32))), .val (.int mA), .val (.int mB), .val (.int r_48), .val (.int r_52), .val .null, .val (own_val oa), .val (.ref b_80), .unset, .unset, .unset, .unset, .unset] []) t) => q83 t (by
        show Go p e below T80 (mkF m 142 #[.val (.int p1), .val (.int p2), .val (.int p3), .val (.int p4), .val (.int p5), .val (.int p6), .val (.ref b21), .val (.int (p2 &&& (2147483647 : Int32))), .val (.int (p4 &&& (2147483647 : Int32))), .val (.int (p5 &&& (2147483647 : Int32))), .val (.int mA), .val (.int mB), .val (.int r_48), .val (.int r_52), .val .null, .val (own_val oa), .val .null, .unset, .unset, .unset, .unset, .unset] [(.ref b_80)]) _
        refine XS.astore X80.here hx rfl (hb hby at_142) rfl rfl (l' := #[.val (.int p1), .val (.int p2), .val (.int p3), .val (.int p4), .val (.int p5), .val (.int p6), .val (.ref b21), .val (.int (p2 &&& (2147483647 : Int32))), .val (.int (p4 &&& (2147483647 : Int32))), .val (.int (p5 &&& (2147483647 : Int32))), .val (.int mA), .val (.int mB), .val (.int r_48), .val (.int r_52), .val .null, .val (own_val oa), .val (.ref b_80), .unset, .unset, .unset, .unset, .unset]) rfl ?_
        exact kt)
      have f86 : Exa Z T80.heap b21 "com/example/pointward/pointward/pointsto/ConstraintGraph" := (mf62_0.keep Kq80)
      exact ⟨T80, T80.heap, _, (some b_80), M'_80, n'_80, z'_80, X80.mono (by decide) (by decide), rfl, O84, N82, f86, fq80_0, fq80_1, fq80_2, (own_q1 (M := M1) mp42_0 hc77 (own_stepM (M := M1) pq80_0).1), (fun x q => Nat.lt_of_lt_of_le (mp62_1 x q) Kq80.1), (fun x q => by cases q; exact fq80_3.lt), (Nat.le_trans (own_stepM (M := M1) pq80_0).2 (by omega)), q85⟩
  have q87 := fun t (kt : Go p e below T75 (mkF m 147 #[.val (.int p1), .val (.int p2), .val (.int p3), .val (.int p4), .val (.int p5), .val (.int p6), .val (.ref b21), .val (.int (p2 &&& (2147483647 : Int32))), .val (.int (p4 &&& (2147483647 : Int32))), .val (.int (p5 &&& (2147483647 : Int32))), .val (.int mA), .val (.int mB), .val (.int r_48), .val (.int r_52), .val .null, .val (own_val oa), .val (own_val ob), .val .null, .unset, .unset, .unset, .unset] []) t) => q75 t (by
    show Go p e below T75 (mkF m 144 #[.val (.int p1), .val (.int p2), .val (.int p3), .val (.int p4), .val (.int p5), .val (.int p6), .val (.ref b21), .val (.int (p2 &&& (2147483647 : Int32))), .val (.int (p4 &&& (2147483647 : Int32))), .val (.int (p5 &&& (2147483647 : Int32))), .val (.int mA), .val (.int mB), .val (.int r_48), .val (.int r_52), .val .null, .val (own_val oa), .val (own_val ob), .unset, .unset, .unset, .unset, .unset] []) _
    refine XS.aconstNull X75.here hx rfl (hb hby at_144) ?_
    show Go p e below T75 (mkF m 145 #[.val (.int p1), .val (.int p2), .val (.int p3), .val (.int p4), .val (.int p5), .val (.int p6), .val (.ref b21), .val (.int (p2 &&& (2147483647 : Int32))), .val (.int (p4 &&& (2147483647 : Int32))), .val (.int (p5 &&& (2147483647 : Int32))), .val (.int mA), .val (.int mB), .val (.int r_48), .val (.int r_52), .val .null, .val (own_val oa), .val (own_val ob), .unset, .unset, .unset, .unset, .unset] [.null]) _
    refine XS.astore X75.here hx rfl (hb hby at_145) rfl rfl (l' := #[.val (.int p1), .val (.int p2), .val (.int p3), .val (.int p4), .val (.int p5), .val (.int p6), .val (.ref b21), .val (.int (p2 &&& (2147483647 : Int32))), .val (.int (p4 &&& (2147483647 : Int32))), .val (.int (p5 &&& (2147483647 : Int32))), .val (.int mA), .val (.int mB), .val (.int r_48), .val (.int r_52), .val .null, .val (own_val oa), .val (own_val ob), .val .null, .unset, .unset, .unset, .unset]) rfl ?_
    exact kt)
  obtain ⟨T88, lo88, oe, X88, e88, N88, mp88_0, q88⟩ : ∃ (T88 : State) (lo88 : List Loc) (oe : Option Addr), Stand p l e room_1 s m #[(.int p1), (.int p2), (.int p3), (.int p4), (.int p5), (.int p6)] below meth c T88 lo88 17 120 ∧ T88.heap = h75 ∧ Fr n0 lo88 ∧ (oe = M2 (own_key r_48 r_52)) ∧ ∀ t, Go p e below T88 (mkF m 194 #[.val (.int p1), .val (.int p2), .val (.int p3), .val (.int p4), .val (.int p5), .val (.int p6), .val (.ref b21), .val (.int (p2 &&& (2147483647 : Int32))), .val (.int (p4 &&& (2147483647 : Int32))), .val (.int (p5 &&& (2147483647 : Int32))), .val (.int mA), .val (.int mB), .val (.int r_48), .val (.int r_52), .val .null, .val (own_val oa), .val (own_val ob), .val (own_val oe), .unset, .unset, .unset, .unset] []) t → Go p e below s₁ (entryFrame m #[(.int p1), (.int p2), (.int p3), (.int p4), (.int p5), (.int p6)] maxLocals) t := by
    skip
    have q89 := fun t (kt : Go p e below T75 (mkF m 149 #[.val (.int p1), .val (.int p2), .val (.int p3), .val (.int p4), .val (.int p5), .val (.int p6), .val (.ref b21), .val (.int (p2 &&& (2147483647 : Int32))), .val (.int (p4 &&& (2147483647 : Int32))), .val (.int (p5 &&& (2147483647 : Int32))), .val (.int mA), .val (.int mB), .val (.int r_48), .val (.int r_52), .val .null, .val (own_val oa), .val (own_val ob), .val .null, .unset, .unset, .unset, .unset] [(.int mB)]) t) => q87 t (by
      show Go p e below T75 (mkF m 147 #[.val (.int p1), .val (.int p2), .val (.int p3), .val (.int p4), .val (.int p5), .val (.int p6), .val (.ref b21), .val (.int (p2 &&& (2147483647 : Int32))), .val (.int (p4 &&& (2147483647 : Int32))), .val (.int (p5 &&& (2147483647 : Int32))), .val (.int mA), .val (.int mB), .val (.int r_48), .val (.int r_52), .val .null, .val (own_val oa), .val (own_val ob), .val .null, .unset, .unset, .unset, .unset] []) _
      refine XS.iload X75.here hx rfl (hb hby at_147) rfl ?_
      exact kt)
    by_cases hc90 : mB = (0 : Int32)
    · have q91 := fun t (kt : Go p e below T75 (mkF m 174 #[.val (.int p1), .val (.int p2), .val (.int p3), .val (.int p4), .val (.int p5), .val (.int p6), .val (.ref b21), .val (.int (p2 &&& (2147483647 : Int32))), .val (.int (p4 &&& (2147483647 : Int32))), .val (.int (p5 &&& (2147483647 : Int32))), .val (.int mA), .val (.int mB), .val (.int r_48), .val (.int r_52), .val .null, .val (own_val oa), .val (own_val ob), .val .null, .unset, .unset, .unset, .unset] [(.int mA)]) t) => q89 t (by
        show Go p e below T75 (mkF m 149 #[.val (.int p1), .val (.int p2), .val (.int p3), .val (.int p4), .val (.int p5), .val (.int p6), .val (.ref b21), .val (.int (p2 &&& (2147483647 : Int32))), .val (.int (p4 &&& (2147483647 : Int32))), .val (.int (p5 &&& (2147483647 : Int32))), .val (.int mA), .val (.int mB), .val (.int r_48), .val (.int r_52), .val .null, .val (own_val oa), .val (own_val ob), .val .null, .unset, .unset, .unset, .unset] [(.int mB)]) _
        refine XS.ifYes X75.here hx rfl (pc0 := 149) (pc' := 172) rfl (hb hby at_149) rfl ((if0 _ _).trans (teq hc90).1) (by decide) (by decide) ?_
        show Go p e below T75 (mkF m 172 #[.val (.int p1), .val (.int p2), .val (.int p3), .val (.int p4), .val (.int p5), .val (.int p6), .val (.ref b21), .val (.int (p2 &&& (2147483647 : Int32))), .val (.int (p4 &&& (2147483647 : Int32))), .val (.int (p5 &&& (2147483647 : Int32))), .val (.int mA), .val (.int mB), .val (.int r_48), .val (.int r_52), .val .null, .val (own_val oa), .val (own_val ob), .val .null, .unset, .unset, .unset, .unset] []) _
        refine XS.iload X75.here hx rfl (hb hby at_172) rfl ?_
        exact kt)
      by_cases hc92 : mA = (0 : Int32)
      · have q93 := fun t (kt : Go p e below T75 (mkF m 194 #[.val (.int p1), .val (.int p2), .val (.int p3), .val (.int p4), .val (.int p5), .val (.int p6), .val (.ref b21), .val (.int (p2 &&& (2147483647 : Int32))), .val (.int (p4 &&& (2147483647 : Int32))), .val (.int (p5 &&& (2147483647 : Int32))), .val (.int mA), .val (.int mB), .val (.int r_48), .val (.int r_52), .val .null, .val (own_val oa), .val (own_val ob), .val .null, .unset, .unset, .unset, .unset] []) t) => q91 t (by
          show Go p e below T75 (mkF m 174 #[.val (.int p1), .val (.int p2), .val (.int p3), .val (.int p4), .val (.int p5), .val (.int p6), .val (.ref b21), .val (.int (p2 &&& (2147483647 : Int32))), .val (.int (p4 &&& (2147483647 : Int32))), .val (.int (p5 &&& (2147483647 : Int32))), .val (.int mA), .val (.int mB), .val (.int r_48), .val (.int r_52), .val .null, .val (own_val oa), .val (own_val ob), .val .null, .unset, .unset, .unset, .unset] [(.int mA)]) _
          refine XS.ifYes X75.here hx rfl (pc0 := 174) (pc' := 194) rfl (hb hby at_174) rfl ((if0 _ _).trans (teq hc92).1) (by decide) (by decide) ?_
          exact kt)
        exact ⟨T75, _, none, X75, e75, N75, (((own_exp mp62_0 mp75_0 mp37_0 mp42_0 (s := r_48) (f := r_52) (own_nn3 pq52_0) (own_nn p2) (own_nn p4)).trans ((if_neg (fun q => q.1 hc90)).trans (if_neg (fun q => q.1 hc92)))).symm), q93⟩
      · have q94 := fun t (kt : Go p e below T75 (mkF m 180 #[.val (.int p1), .val (.int p2), .val (.int p3), .val (.int p4), .val (.int p5), .val (.int p6), .val (.ref b21), .val (.int (p2 &&& (2147483647 : Int32))), .val (.int (p4 &&& (2147483647 : Int32))), .val (.int (p5 &&& (2147483647 : Int32))), .val (.int mA), .val (.int mB), .val (.int r_48), .val (.int r_52), .val .null, .val (own_val oa), .val (own_val ob), .val .null, .unset, .unset, .unset, .unset] [(.int p1), (.int r_48)]) t) => q91 t (by
          show Go p e below T75 (mkF m 174 #[.val (.int p1), .val (.int p2), .val (.int p3), .val (.int p4), .val (.int p5), .val (.int p6), .val (.ref b21), .val (.int (p2 &&& (2147483647 : Int32))), .val (.int (p4 &&& (2147483647 : Int32))), .val (.int (p5 &&& (2147483647 : Int32))), .val (.int mA), .val (.int mB), .val (.int r_48), .val (.int r_52), .val .null, .val (own_val oa), .val (own_val ob), .val .null, .unset, .unset, .unset, .unset] [(.int mA)]) _
          refine XS.ifNo X75.here hx rfl (hb hby at_174) rfl ((if0 _ _).trans (feq hc92).1) ?_
          show Go p e below T75 (mkF m 177 #[.val (.int p1), .val (.int p2), .val (.int p3), .val (.int p4), .val (.int p5), .val (.int p6), .val (.ref b21), .val (.int (p2 &&& (2147483647 : Int32))), .val (.int (p4 &&& (2147483647 : Int32))), .val (.int (p5 &&& (2147483647 : Int32))), .val (.int mA), .val (.int mB), .val (.int r_48), .val (.int r_52), .val .null, .val (own_val oa), .val (own_val ob), .val .null, .unset, .unset, .unset, .unset] []) _
          refine XS.iload X75.here hx rfl (hb hby at_177) rfl ?_
          show Go p e below T75 (mkF m 179 #[.val (.int p1), .val (.int p2), .val (.int p3), .val (.int p4), .val (.int p5), .val (.int p6), .val (.ref b21), .val (.int (p2 &&& (2147483647 : Int32))), .val (.int (p4 &&& (2147483647 : Int32))), .val (.int (p5 &&& (2147483647 : Int32))), .val (.int mA), .val (.int mB), .val (.int r_48), .val (.int r_52), .val .null, .val (own_val oa), .val (own_val ob), .val .null, .unset, .unset, .unset, .unset] [(.int r_48)]) _
          refine XS.iloadN X75.here hx rfl (hb hby at_179) rfl ?_
          exact kt)
        by_cases hc95 : r_48 = p1
        · have q96 := fun t (kt : Go p e below T75 (mkF m 187 #[.val (.int p1), .val (.int p2), .val (.int p3), .val (.int p4), .val (.int p5), .val (.int p6), .val (.ref b21), .val (.int (p2 &&& (2147483647 : Int32))), .val (.int (p4 &&& (2147483647 : Int32))), .val (.int (p5 &&& (2147483647 : Int32))), .val (.int mA), .val (.int mB), .val (.int r_48), .val (.int r_52), .val .null, .val (own_val oa), .val (own_val ob), .val .null, .unset, .unset, .unset, .unset] [(.int (p2 &&& (2147483647 : Int32))), (.int r_52)]) t) => q94 t (by
            show Go p e below T75 (mkF m 180 #[.val (.int p1), .val (.int p2), .val (.int p3), .val (.int p4), .val (.int p5), .val (.int p6), .val (.ref b21), .val (.int (p2 &&& (2147483647 : Int32))), .val (.int (p4 &&& (2147483647 : Int32))), .val (.int (p5 &&& (2147483647 : Int32))), .val (.int mA), .val (.int mB), .val (.int r_48), .val (.int r_52), .val .null, .val (own_val oa), .val (own_val ob), .val .null, .unset, .unset, .unset, .unset] [(.int p1), (.int r_48)]) _
            refine XS.icmpNo X75.here hx rfl (hb hby at_180) rfl (teq hc95).2 ?_
            show Go p e below T75 (mkF m 183 #[.val (.int p1), .val (.int p2), .val (.int p3), .val (.int p4), .val (.int p5), .val (.int p6), .val (.ref b21), .val (.int (p2 &&& (2147483647 : Int32))), .val (.int (p4 &&& (2147483647 : Int32))), .val (.int (p5 &&& (2147483647 : Int32))), .val (.int mA), .val (.int mB), .val (.int r_48), .val (.int r_52), .val .null, .val (own_val oa), .val (own_val ob), .val .null, .unset, .unset, .unset, .unset] []) _
            refine XS.iload X75.here hx rfl (hb hby at_183) rfl ?_
            show Go p e below T75 (mkF m 185 #[.val (.int p1), .val (.int p2), .val (.int p3), .val (.int p4), .val (.int p5), .val (.int p6), .val (.ref b21), .val (.int (p2 &&& (2147483647 : Int32))), .val (.int (p4 &&& (2147483647 : Int32))), .val (.int (p5 &&& (2147483647 : Int32))), .val (.int mA), .val (.int mB), .val (.int r_48), .val (.int r_52), .val .null, .val (own_val oa), .val (own_val ob), .val .null, .unset, .unset, .unset, .unset] [(.int r_52)]) _
            refine XS.iload X75.here hx rfl (hb hby at_185) rfl ?_
            exact kt)
          by_cases hc97 : r_52 = (p2 &&& (2147483647 : Int32))
          · have q98 := fun t (kt : Go p e below T75 (mkF m 194 #[.val (.int p1), .val (.int p2), .val (.int p3), .val (.int p4), .val (.int p5), .val (.int p6), .val (.ref b21), .val (.int (p2 &&& (2147483647 : Int32))), .val (.int (p4 &&& (2147483647 : Int32))), .val (.int (p5 &&& (2147483647 : Int32))), .val (.int mA), .val (.int mB), .val (.int r_48), .val (.int r_52), .val .null, .val (own_val oa), .val (own_val ob), .val (own_val oa), .unset, .unset, .unset, .unset] []) t) => q96 t (by
              show Go p e below T75 (mkF m 187 #[.val (.int p1), .val (.int p2), .val (.int p3), .val (.int p4), .val (.int p5), .val (.int p6), .val (.ref b21), .val (.int (p2 &&& (2147483647 : Int32))), .val (.int (p4 &&& (2147483647 : Int32))), .val (.int (p5 &&& (2147483647 : Int32))), .val (.int mA), .val (.int mB), .val (.int r_48), .val (.int r_52), .val .null, .val (own_val oa), .val (own_val ob), .val .null, .unset, .unset, .unset, .unset] [(.int (p2 &&& (2147483647 : Int32))), (.int r_52)]) _
              refine XS.icmpNo X75.here hx rfl (hb hby at_187) rfl (teq hc97).2 ?_
              show Go p e below T75 (mkF m 190 #[.val (.int p1), .val (.int p2), .val (.int p3), .val (.int p4), .val (.int p5), .val (.int p6), .val (.ref b21), .val (.int (p2 &&& (2147483647 : Int32))), .val (.int (p4 &&& (2147483647 : Int32))), .val (.int (p5 &&& (2147483647 : Int32))), .val (.int mA), .val (.int mB), .val (.int r_48), .val (.int r_52), .val .null, .val (own_val oa), .val (own_val ob), .val .null, .unset, .unset, .unset, .unset] []) _
              refine XS.aload X75.here hx rfl (hb hby at_190) rfl (own_val_ref _) ?_
              show Go p e below T75 (mkF m 192 #[.val (.int p1), .val (.int p2), .val (.int p3), .val (.int p4), .val (.int p5), .val (.int p6), .val (.ref b21), .val (.int (p2 &&& (2147483647 : Int32))), .val (.int (p4 &&& (2147483647 : Int32))), .val (.int (p5 &&& (2147483647 : Int32))), .val (.int mA), .val (.int mB), .val (.int r_48), .val (.int r_52), .val .null, .val (own_val oa), .val (own_val ob), .val .null, .unset, .unset, .unset, .unset] [(own_val oa)]) _
              refine XS.astoreS X75.here hx rfl (hb hby at_192) rfl (own_val_ref _) (XT.cat1 (own_val_ref _)) rfl (Or.inr ⟨_, rfl, rfl⟩) ?_
              exact kt)
            exact ⟨T75, _, oa, X75, e75, N75, (((own_exp mp62_0 mp75_0 mp37_0 mp42_0 (s := r_48) (f := r_52) (own_nn3 pq52_0) (own_nn p2) (own_nn p4)).trans ((if_neg (fun q => q.1 hc90)).trans (if_pos ⟨hc92, hc95, hc97⟩))).symm), q98⟩
          · have q99 := fun t (kt : Go p e below T75 (mkF m 194 #[.val (.int p1), .val (.int p2), .val (.int p3), .val (.int p4), .val (.int p5), .val (.int p6), .val (.ref b21), .val (.int (p2 &&& (2147483647 : Int32))), .val (.int (p4 &&& (2147483647 : Int32))), .val (.int (p5 &&& (2147483647 : Int32))), .val (.int mA), .val (.int mB), .val (.int r_48), .val (.int r_52), .val .null, .val (own_val oa), .val (own_val ob), .val .null, .unset, .unset, .unset, .unset] []) t) => q96 t (by
              show Go p e below T75 (mkF m 187 #[.val (.int p1), .val (.int p2), .val (.int p3), .val (.int p4), .val (.int p5), .val (.int p6), .val (.ref b21), .val (.int (p2 &&& (2147483647 : Int32))), .val (.int (p4 &&& (2147483647 : Int32))), .val (.int (p5 &&& (2147483647 : Int32))), .val (.int mA), .val (.int mB), .val (.int r_48), .val (.int r_52), .val .null, .val (own_val oa), .val (own_val ob), .val .null, .unset, .unset, .unset, .unset] [(.int (p2 &&& (2147483647 : Int32))), (.int r_52)]) _
              refine XS.icmpYes X75.here hx rfl (pc0 := 187) (pc' := 194) rfl (hb hby at_187) rfl (feq hc97).2 (by decide) (by decide) ?_
              exact kt)
            exact ⟨T75, _, none, X75, e75, N75, (((own_exp mp62_0 mp75_0 mp37_0 mp42_0 (s := r_48) (f := r_52) (own_nn3 pq52_0) (own_nn p2) (own_nn p4)).trans ((if_neg (fun q => q.1 hc90)).trans (if_neg (fun q => hc97 q.2.2)))).symm), q99⟩
        · have q100 := fun t (kt : Go p e below T75 (mkF m 194 #[.val (.int p1), .val (.int p2), .val (.int p3), .val (.int p4), .val (.int p5), .val (.int p6), .val (.ref b21), .val (.int (p2 &&& (2147483647 : Int32))), .val (.int (p4 &&& (2147483647 : Int32))), .val (.int (p5 &&& (2147483647 : Int32))), .val (.int mA), .val (.int mB), .val (.int r_48), .val (.int r_52), .val .null, .val (own_val oa), .val (own_val ob), .val .null, .unset, .unset, .unset, .unset] []) t) => q94 t (by
            show Go p e below T75 (mkF m 180 #[.val (.int p1), .val (.int p2), .val (.int p3), .val (.int p4), .val (.int p5), .val (.int p6), .val (.ref b21), .val (.int (p2 &&& (2147483647 : Int32))), .val (.int (p4 &&& (2147483647 : Int32))), .val (.int (p5 &&& (2147483647 : Int32))), .val (.int mA), .val (.int mB), .val (.int r_48), .val (.int r_52), .val .null, .val (own_val oa), .val (own_val ob), .val .null, .unset, .unset, .unset, .unset] [(.int p1), (.int r_48)]) _
            refine XS.icmpYes X75.here hx rfl (pc0 := 180) (pc' := 194) rfl (hb hby at_180) rfl (feq hc95).2 (by decide) (by decide) ?_
            exact kt)
          exact ⟨T75, _, none, X75, e75, N75, (((own_exp mp62_0 mp75_0 mp37_0 mp42_0 (s := r_48) (f := r_52) (own_nn3 pq52_0) (own_nn p2) (own_nn p4)).trans ((if_neg (fun q => q.1 hc90)).trans (if_neg (fun q => hc95 q.2.1)))).symm), q100⟩
    · have q101 := fun t (kt : Go p e below T75 (mkF m 155 #[.val (.int p1), .val (.int p2), .val (.int p3), .val (.int p4), .val (.int p5), .val (.int p6), .val (.ref b21), .val (.int (p2 &&& (2147483647 : Int32))), .val (.int (p4 &&& (2147483647 : Int32))), .val (.int (p5 &&& (2147483647 : Int32))), .val (.int mA), .val (.int mB), .val (.int r_48), .val (.int r_52), .val .null, .val (own_val oa), .val (own_val ob), .val .null, .unset, .unset, .unset, .unset] [(.int p3), (.int r_48)]) t) => q89 t (by
        show Go p e below T75 (mkF m 149 #[.val (.int p1), .val (.int p2), .val (.int p3), .val (.int p4), .val (.int p5), .val (.int p6), .val (.ref b21), .val (.int (p2 &&& (2147483647 : Int32))), .val (.int (p4 &&& (2147483647 : Int32))), .val (.int (p5 &&& (2147483647 : Int32))), .val (.int mA), .val (.int mB), .val (.int r_48), .val (.int r_52), .val .null, .val (own_val oa), .val (own_val ob), .val .null, .unset, .unset, .unset, .unset] [(.int mB)]) _
        refine XS.ifNo X75.here hx rfl (hb hby at_149) rfl ((if0 _ _).trans (feq hc90).1) ?_
        show Go p e below T75 (mkF m 152 #[.val (.int p1), .val (.int p2), .val (.int p3), .val (.int p4), .val (.int p5), .val (.int p6), .val (.ref b21), .val (.int (p2 &&& (2147483647 : Int32))), .val (.int (p4 &&& (2147483647 : Int32))), .val (.int (p5 &&& (2147483647 : Int32))), .val (.int mA), .val (.int mB), .val (.int r_48), .val (.int r_52), .val .null, .val (own_val oa), .val (own_val ob), .val .null, .unset, .unset, .unset, .unset] []) _
        refine XS.iload X75.here hx rfl (hb hby at_152) rfl ?_
        show Go p e below T75 (mkF m 154 #[.val (.int p1), .val (.int p2), .val (.int p3), .val (.int p4), .val (.int p5), .val (.int p6), .val (.ref b21), .val (.int (p2 &&& (2147483647 : Int32))), .val (.int (p4 &&& (2147483647 : Int32))), .val (.int (p5 &&& (2147483647 : Int32))), .val (.int mA), .val (.int mB), .val (.int r_48), .val (.int r_52), .val .null, .val (own_val oa), .val (own_val ob), .val .null, .unset, .unset, .unset, .unset] [(.int r_48)]) _
        refine XS.iloadN X75.here hx rfl (hb hby at_154) rfl ?_
        exact kt)
      by_cases hc102 : r_48 = p3
      · have q103 := fun t (kt : Go p e below T75 (mkF m 162 #[.val (.int p1), .val (.int p2), .val (.int p3), .val (.int p4), .val (.int p5), .val (.int p6), .val (.ref b21), .val (.int (p2 &&& (2147483647 : Int32))), .val (.int (p4 &&& (2147483647 : Int32))), .val (.int (p5 &&& (2147483647 : Int32))), .val (.int mA), .val (.int mB), .val (.int r_48), .val (.int r_52), .val .null, .val (own_val oa), .val (own_val ob), .val .null, .unset, .unset, .unset, .unset] [(.int (p4 &&& (2147483647 : Int32))), (.int r_52)]) t) => q101 t (by
          show Go p e below T75 (mkF m 155 #[.val (.int p1), .val (.int p2), .val (.int p3), .val (.int p4), .val (.int p5), .val (.int p6), .val (.ref b21), .val (.int (p2 &&& (2147483647 : Int32))), .val (.int (p4 &&& (2147483647 : Int32))), .val (.int (p5 &&& (2147483647 : Int32))), .val (.int mA), .val (.int mB), .val (.int r_48), .val (.int r_52), .val .null, .val (own_val oa), .val (own_val ob), .val .null, .unset, .unset, .unset, .unset] [(.int p3), (.int r_48)]) _
          refine XS.icmpNo X75.here hx rfl (hb hby at_155) rfl (teq hc102).2 ?_
          show Go p e below T75 (mkF m 158 #[.val (.int p1), .val (.int p2), .val (.int p3), .val (.int p4), .val (.int p5), .val (.int p6), .val (.ref b21), .val (.int (p2 &&& (2147483647 : Int32))), .val (.int (p4 &&& (2147483647 : Int32))), .val (.int (p5 &&& (2147483647 : Int32))), .val (.int mA), .val (.int mB), .val (.int r_48), .val (.int r_52), .val .null, .val (own_val oa), .val (own_val ob), .val .null, .unset, .unset, .unset, .unset] []) _
          refine XS.iload X75.here hx rfl (hb hby at_158) rfl ?_
          show Go p e below T75 (mkF m 160 #[.val (.int p1), .val (.int p2), .val (.int p3), .val (.int p4), .val (.int p5), .val (.int p6), .val (.ref b21), .val (.int (p2 &&& (2147483647 : Int32))), .val (.int (p4 &&& (2147483647 : Int32))), .val (.int (p5 &&& (2147483647 : Int32))), .val (.int mA), .val (.int mB), .val (.int r_48), .val (.int r_52), .val .null, .val (own_val oa), .val (own_val ob), .val .null, .unset, .unset, .unset, .unset] [(.int r_52)]) _
          refine XS.iload X75.here hx rfl (hb hby at_160) rfl ?_
          exact kt)
        by_cases hc104 : r_52 = (p4 &&& (2147483647 : Int32))
        · have q105 := fun t (kt : Go p e below T75 (mkF m 194 #[.val (.int p1), .val (.int p2), .val (.int p3), .val (.int p4), .val (.int p5), .val (.int p6), .val (.ref b21), .val (.int (p2 &&& (2147483647 : Int32))), .val (.int (p4 &&& (2147483647 : Int32))), .val (.int (p5 &&& (2147483647 : Int32))), .val (.int mA), .val (.int mB), .val (.int r_48), .val (.int r_52), .val .null, .val (own_val oa), .val (own_val ob), .val (own_val ob), .unset, .unset, .unset, .unset] []) t) => q103 t (by
            show Go p e below T75 (mkF m 162 #[.val (.int p1), .val (.int p2), .val (.int p3), .val (.int p4), .val (.int p5), .val (.int p6), .val (.ref b21), .val (.int (p2 &&& (2147483647 : Int32))), .val (.int (p4 &&& (2147483647 : Int32))), .val (.int (p5 &&& (2147483647 : Int32))), .val (.int mA), .val (.int mB), .val (.int r_48), .val (.int r_52), .val .null, .val (own_val oa), .val (own_val ob), .val .null, .unset, .unset, .unset, .unset] [(.int (p4 &&& (2147483647 : Int32))), (.int r_52)]) _
            refine XS.icmpNo X75.here hx rfl (hb hby at_162) rfl (teq hc104).2 ?_
            show Go p e below T75 (mkF m 165 #[.val (.int p1), .val (.int p2), .val (.int p3), .val (.int p4), .val (.int p5), .val (.int p6), .val (.ref b21), .val (.int (p2 &&& (2147483647 : Int32))), .val (.int (p4 &&& (2147483647 : Int32))), .val (.int (p5 &&& (2147483647 : Int32))), .val (.int mA), .val (.int mB), .val (.int r_48), .val (.int r_52), .val .null, .val (own_val oa), .val (own_val ob), .val .null, .unset, .unset, .unset, .unset] []) _
            refine XS.aload X75.here hx rfl (hb hby at_165) rfl (own_val_ref _) ?_
            show Go p e below T75 (mkF m 167 #[.val (.int p1), .val (.int p2), .val (.int p3), .val (.int p4), .val (.int p5), .val (.int p6), .val (.ref b21), .val (.int (p2 &&& (2147483647 : Int32))), .val (.int (p4 &&& (2147483647 : Int32))), .val (.int (p5 &&& (2147483647 : Int32))), .val (.int mA), .val (.int mB), .val (.int r_48), .val (.int r_52), .val .null, .val (own_val oa), .val (own_val ob), .val .null, .unset, .unset, .unset, .unset] [(own_val ob)]) _
            refine XS.astoreS X75.here hx rfl (hb hby at_167) rfl (own_val_ref _) (XT.cat1 (own_val_ref _)) rfl (Or.inr ⟨_, rfl, rfl⟩) ?_
            show Go p e below T75 (mkF m 169 #[.val (.int p1), .val (.int p2), .val (.int p3), .val (.int p4), .val (.int p5), .val (.int p6), .val (.ref b21), .val (.int (p2 &&& (2147483647 : Int32))), .val (.int (p4 &&& (2147483647 : Int32))), .val (.int (p5 &&& (2147483647 : Int32))), .val (.int mA), .val (.int mB), .val (.int r_48), .val (.int r_52), .val .null, .val (own_val oa), .val (own_val ob), .val (own_val ob), .unset, .unset, .unset, .unset] []) _
            refine XS.goto X75.here hx rfl (pc0 := 169) (pc' := 194) rfl (hb hby at_169) (by decide) (by decide) ?_
            exact kt)
          exact ⟨T75, _, ob, X75, e75, N75, (((own_exp mp62_0 mp75_0 mp37_0 mp42_0 (s := r_48) (f := r_52) (own_nn3 pq52_0) (own_nn p2) (own_nn p4)).trans (if_pos ⟨hc90, hc102, hc104⟩)).symm), q105⟩
        · have q106 := fun t (kt : Go p e below T75 (mkF m 174 #[.val (.int p1), .val (.int p2), .val (.int p3), .val (.int p4), .val (.int p5), .val (.int p6), .val (.ref b21), .val (.int (p2 &&& (2147483647 : Int32))), .val (.int (p4 &&& (2147483647 : Int32))), .val (.int (p5 &&& (2147483647 : Int32))), .val (.int mA), .val (.int mB), .val (.int r_48), .val (.int r_52), .val .null, .val (own_val oa), .val (own_val ob), .val .null, .unset, .unset, .unset, .unset] [(.int mA)]) t) => q103 t (by
            show Go p e below T75 (mkF m 162 #[.val (.int p1), .val (.int p2), .val (.int p3), .val (.int p4), .val (.int p5), .val (.int p6), .val (.ref b21), .val (.int (p2 &&& (2147483647 : Int32))), .val (.int (p4 &&& (2147483647 : Int32))), .val (.int (p5 &&& (2147483647 : Int32))), .val (.int mA), .val (.int mB), .val (.int r_48), .val (.int r_52), .val .null, .val (own_val oa), .val (own_val ob), .val .null, .unset, .unset, .unset, .unset] [(.int (p4 &&& (2147483647 : Int32))), (.int r_52)]) _
            refine XS.icmpYes X75.here hx rfl (pc0 := 162) (pc' := 172) rfl (hb hby at_162) rfl (feq hc104).2 (by decide) (by decide) ?_
            show Go p e below T75 (mkF m 172 #[.val (.int p1), .val (.int p2), .val (.int p3), .val (.int p4), .val (.int p5), .val (.int p6), .val (.ref b21), .val (.int (p2 &&& (2147483647 : Int32))), .val (.int (p4 &&& (2147483647 : Int32))), .val (.int (p5 &&& (2147483647 : Int32))), .val (.int mA), .val (.int mB), .val (.int r_48), .val (.int r_52), .val .null, .val (own_val oa), .val (own_val ob), .val .null, .unset, .unset, .unset, .unset] []) _
            refine XS.iload X75.here hx rfl (hb hby at_172) rfl ?_
            exact kt)
          by_cases hc107 : mA = (0 : Int32)
          · have q108 := fun t (kt : Go p e below T75 (mkF m 194 #[.val (.int p1), .val (.int p2), .val (.int p3), .val (.int p4), .val (.int p5), .val (.int p6), .val (.ref b21), .val (.int (p2 &&& (2147483647 : Int32))), .val (.int (p4 &&& (2147483647 : Int32))), .val (.int (p5 &&& (2147483647 : Int32))), .val (.int mA), .val (.int mB), .val (.int r_48), .val (.int r_52), .val .null, .val (own_val oa), .val (own_val ob), .val .null, .unset, .unset, .unset, .unset] []) t) => q106 t (by
              show Go p e below T75 (mkF m 174 #[.val (.int p1), .val (.int p2), .val (.int p3), .val (.int p4), .val (.int p5), .val (.int p6), .val (.ref b21), .val (.int (p2 &&& (2147483647 : Int32))), .val (.int (p4 &&& (2147483647 : Int32))), .val (.int (p5 &&& (2147483647 : Int32))), .val (.int mA), .val (.int mB), .val (.int r_48), .val (.int r_52), .val .null, .val (own_val oa), .val (own_val ob), .val .null, .unset, .unset, .unset, .unset] [(.int mA)]) _
              refine XS.ifYes X75.here hx rfl (pc0 := 174) (pc' := 194) rfl (hb hby at_174) rfl ((if0 _ _).trans (teq hc107).1) (by decide) (by decide) ?_
              exact kt)
            exact ⟨T75, _, none, X75, e75, N75, (((own_exp mp62_0 mp75_0 mp37_0 mp42_0 (s := r_48) (f := r_52) (own_nn3 pq52_0) (own_nn p2) (own_nn p4)).trans ((if_neg (fun q => hc104 q.2.2)).trans (if_neg (fun q => q.1 hc107)))).symm), q108⟩
          · have q109 := fun t (kt : Go p e below T75 (mkF m 180 #[.val (.int p1), .val (.int p2), .val (.int p3), .val (.int p4), .val (.int p5), .val (.int p6), .val (.ref b21), .val (.int (p2 &&& (2147483647 : Int32))), .val (.int (p4 &&& (2147483647 : Int32))), .val (.int (p5 &&& (2147483647 : Int32))), .val (.int mA), .val (.int mB), .val (.int r_48), .val (.int r_52), .val .null, .val (own_val oa), .val (own_val ob), .val .null, .unset, .unset, .unset, .unset] [(.int p1), (.int r_48)]) t) => q106 t (by
              show Go p e below T75 (mkF m 174 #[.val (.int p1), .val (.int p2), .val (.int p3), .val (.int p4), .val (.int p5), .val (.int p6), .val (.ref b21), .val (.int (p2 &&& (2147483647 : Int32))), .val (.int (p4 &&& (2147483647 : Int32))), .val (.int (p5 &&& (2147483647 : Int32))), .val (.int mA), .val (.int mB), .val (.int r_48), .val (.int r_52), .val .null, .val (own_val oa), .val (own_val ob), .val .null, .unset, .unset, .unset, .unset] [(.int mA)]) _
              refine XS.ifNo X75.here hx rfl (hb hby at_174) rfl ((if0 _ _).trans (feq hc107).1) ?_
              show Go p e below T75 (mkF m 177 #[.val (.int p1), .val (.int p2), .val (.int p3), .val (.int p4), .val (.int p5), .val (.int p6), .val (.ref b21), .val (.int (p2 &&& (2147483647 : Int32))), .val (.int (p4 &&& (2147483647 : Int32))), .val (.int (p5 &&& (2147483647 : Int32))), .val (.int mA), .val (.int mB), .val (.int r_48), .val (.int r_52), .val .null, .val (own_val oa), .val (own_val ob), .val .null, .unset, .unset, .unset, .unset] []) _
              refine XS.iload X75.here hx rfl (hb hby at_177) rfl ?_
              show Go p e below T75 (mkF m 179 #[.val (.int p1), .val (.int p2), .val (.int p3), .val (.int p4), .val (.int p5), .val (.int p6), .val (.ref b21), .val (.int (p2 &&& (2147483647 : Int32))), .val (.int (p4 &&& (2147483647 : Int32))), .val (.int (p5 &&& (2147483647 : Int32))), .val (.int mA), .val (.int mB), .val (.int r_48), .val (.int r_52), .val .null, .val (own_val oa), .val (own_val ob), .val .null, .unset, .unset, .unset, .unset] [(.int r_48)]) _
              refine XS.iloadN X75.here hx rfl (hb hby at_179) rfl ?_
              exact kt)
            by_cases hc110 : r_48 = p1
            · have q111 := fun t (kt : Go p e below T75 (mkF m 187 #[.val (.int p1), .val (.int p2), .val (.int p3), .val (.int p4), .val (.int p5), .val (.int p6), .val (.ref b21), .val (.int (p2 &&& (2147483647 : Int32))), .val (.int (p4 &&& (2147483647 : Int32))), .val (.int (p5 &&& (2147483647 : Int32))), .val (.int mA), .val (.int mB), .val (.int r_48), .val (.int r_52), .val .null, .val (own_val oa), .val (own_val ob), .val .null, .unset, .unset, .unset, .unset] [(.int (p2 &&& (2147483647 : Int32))), (.int r_52)]) t) => q109 t (by
                show Go p e below T75 (mkF m 180 #[.val (.int p1), .val (.int p2), .val (.int p3), .val (.int p4), .val (.int p5), .val (.int p6), .val (.ref b21), .val (.int (p2 &&& (2147483647 : Int32))), .val (.int (p4 &&& (2147483647 : Int32))), .val (.int (p5 &&& (2147483647 : Int32))), .val (.int mA), .val (.int mB), .val (.int r_48), .val (.int r_52), .val .null, .val (own_val oa), .val (own_val ob), .val .null, .unset, .unset, .unset, .unset] [(.int p1), (.int r_48)]) _
                refine XS.icmpNo X75.here hx rfl (hb hby at_180) rfl (teq hc110).2 ?_
                show Go p e below T75 (mkF m 183 #[.val (.int p1), .val (.int p2), .val (.int p3), .val (.int p4), .val (.int p5), .val (.int p6), .val (.ref b21), .val (.int (p2 &&& (2147483647 : Int32))), .val (.int (p4 &&& (2147483647 : Int32))), .val (.int (p5 &&& (2147483647 : Int32))), .val (.int mA), .val (.int mB), .val (.int r_48), .val (.int r_52), .val .null, .val (own_val oa), .val (own_val ob), .val .null, .unset, .unset, .unset, .unset] []) _
                refine XS.iload X75.here hx rfl (hb hby at_183) rfl ?_
                show Go p e below T75 (mkF m 185 #[.val (.int p1), .val (.int p2), .val (.int p3), .val (.int p4), .val (.int p5), .val (.int p6), .val (.ref b21), .val (.int (p2 &&& (2147483647 : Int32))), .val (.int (p4 &&& (2147483647 : Int32))), .val (.int (p5 &&& (2147483647 : Int32))), .val (.int mA), .val (.int mB), .val (.int r_48), .val (.int r_52), .val .null, .val (own_val oa), .val (own_val ob), .val .null, .unset, .unset, .unset, .unset] [(.int r_52)]) _
                refine XS.iload X75.here hx rfl (hb hby at_185) rfl ?_
                exact kt)
              by_cases hc112 : r_52 = (p2 &&& (2147483647 : Int32))
              · have q113 := fun t (kt : Go p e below T75 (mkF m 194 #[.val (.int p1), .val (.int p2), .val (.int p3), .val (.int p4), .val (.int p5), .val (.int p6), .val (.ref b21), .val (.int (p2 &&& (2147483647 : Int32))), .val (.int (p4 &&& (2147483647 : Int32))), .val (.int (p5 &&& (2147483647 : Int32))), .val (.int mA), .val (.int mB), .val (.int r_48), .val (.int r_52), .val .null, .val (own_val oa), .val (own_val ob), .val (own_val oa), .unset, .unset, .unset, .unset] []) t) => q111 t (by
                  show Go p e below T75 (mkF m 187 #[.val (.int p1), .val (.int p2), .val (.int p3), .val (.int p4), .val (.int p5), .val (.int p6), .val (.ref b21), .val (.int (p2 &&& (2147483647 : Int32))), .val (.int (p4 &&& (2147483647 : Int32))), .val (.int (p5 &&& (2147483647 : Int32))), .val (.int mA), .val (.int mB), .val (.int r_48), .val (.int r_52), .val .null, .val (own_val oa), .val (own_val ob), .val .null, .unset, .unset, .unset, .unset] [(.int (p2 &&& (2147483647 : Int32))), (.int r_52)]) _
                  refine XS.icmpNo X75.here hx rfl (hb hby at_187) rfl (teq hc112).2 ?_
                  show Go p e below T75 (mkF m 190 #[.val (.int p1), .val (.int p2), .val (.int p3), .val (.int p4), .val (.int p5), .val (.int p6), .val (.ref b21), .val (.int (p2 &&& (2147483647 : Int32))), .val (.int (p4 &&& (2147483647 : Int32))), .val (.int (p5 &&& (2147483647 : Int32))), .val (.int mA), .val (.int mB), .val (.int r_48), .val (.int r_52), .val .null, .val (own_val oa), .val (own_val ob), .val .null, .unset, .unset, .unset, .unset] []) _
                  refine XS.aload X75.here hx rfl (hb hby at_190) rfl (own_val_ref _) ?_
                  show Go p e below T75 (mkF m 192 #[.val (.int p1), .val (.int p2), .val (.int p3), .val (.int p4), .val (.int p5), .val (.int p6), .val (.ref b21), .val (.int (p2 &&& (2147483647 : Int32))), .val (.int (p4 &&& (2147483647 : Int32))), .val (.int (p5 &&& (2147483647 : Int32))), .val (.int mA), .val (.int mB), .val (.int r_48), .val (.int r_52), .val .null, .val (own_val oa), .val (own_val ob), .val .null, .unset, .unset, .unset, .unset] [(own_val oa)]) _
                  refine XS.astoreS X75.here hx rfl (hb hby at_192) rfl (own_val_ref _) (XT.cat1 (own_val_ref _)) rfl (Or.inr ⟨_, rfl, rfl⟩) ?_
                  exact kt)
                exact ⟨T75, _, oa, X75, e75, N75, (((own_exp mp62_0 mp75_0 mp37_0 mp42_0 (s := r_48) (f := r_52) (own_nn3 pq52_0) (own_nn p2) (own_nn p4)).trans ((if_neg (fun q => hc104 q.2.2)).trans (if_pos ⟨hc107, hc110, hc112⟩))).symm), q113⟩
              · have q114 := fun t (kt : Go p e below T75 (mkF m 194 #[.val (.int p1), .val (.int p2), .val (.int p3), .val (.int p4), .val (.int p5), .val (.int p6), .val (.ref b21), .val (.int (p2 &&& (2147483647 : Int32))), .val (.int (p4 &&& (2147483647 : Int32))), .val (.int (p5 &&& (2147483647 : Int32))), .val (.int mA), .val (.int mB), .val (.int r_48), .val (.int r_52), .val .null, .val (own_val oa), .val (own_val ob), .val .null, .unset, .unset, .unset, .unset] []) t) => q111 t (by
                  show Go p e below T75 (mkF m 187 #[.val (.int p1), .val (.int p2), .val (.int p3), .val (.int p4), .val (.int p5), .val (.int p6), .val (.ref b21), .val (.int (p2 &&& (2147483647 : Int32))), .val (.int (p4 &&& (2147483647 : Int32))), .val (.int (p5 &&& (2147483647 : Int32))), .val (.int mA), .val (.int mB), .val (.int r_48), .val (.int r_52), .val .null, .val (own_val oa), .val (own_val ob), .val .null, .unset, .unset, .unset, .unset] [(.int (p2 &&& (2147483647 : Int32))), (.int r_52)]) _
                  refine XS.icmpYes X75.here hx rfl (pc0 := 187) (pc' := 194) rfl (hb hby at_187) rfl (feq hc112).2 (by decide) (by decide) ?_
                  exact kt)
                exact ⟨T75, _, none, X75, e75, N75, (((own_exp mp62_0 mp75_0 mp37_0 mp42_0 (s := r_48) (f := r_52) (own_nn3 pq52_0) (own_nn p2) (own_nn p4)).trans ((if_neg (fun q => hc104 q.2.2)).trans (if_neg (fun q => hc112 q.2.2)))).symm), q114⟩
            · have q115 := fun t (kt : Go p e below T75 (mkF m 194 #[.val (.int p1), .val (.int p2), .val (.int p3), .val (.int p4), .val (.int p5), .val (.int p6), .val (.ref b21), .val (.int (p2 &&& (2147483647 : Int32))), .val (.int (p4 &&& (2147483647 : Int32))), .val (.int (p5 &&& (2147483647 : Int32))), .val (.int mA), .val (.int mB), .val (.int r_48), .val (.int r_52), .val .null, .val (own_val oa), .val (own_val ob), .val .null, .unset, .unset, .unset, .unset] []) t) => q109 t (by
                show Go p e below T75 (mkF m 180 #[.val (.int p1), .val (.int p2), .val (.int p3), .val (.int p4), .val (.int p5), .val (.int p6), .val (.ref b21), .val (.int (p2 &&& (2147483647 : Int32))), .val (.int (p4 &&& (2147483647 : Int32))), .val (.int (p5 &&& (2147483647 : Int32))), .val (.int mA), .val (.int mB), .val (.int r_48), .val (.int r_52), .val .null, .val (own_val oa), .val (own_val ob), .val .null, .unset, .unset, .unset, .unset] [(.int p1), (.int r_48)]) _
                refine XS.icmpYes X75.here hx rfl (pc0 := 180) (pc' := 194) rfl (hb hby at_180) rfl (feq hc110).2 (by decide) (by decide) ?_
                exact kt)
              exact ⟨T75, _, none, X75, e75, N75, (((own_exp mp62_0 mp75_0 mp37_0 mp42_0 (s := r_48) (f := r_52) (own_nn3 pq52_0) (own_nn p2) (own_nn p4)).trans ((if_neg (fun q => hc104 q.2.2)).trans (if_neg (fun q => hc110 q.2.1)))).symm), q115⟩
      · have q116 := fun t (kt : Go p e below T75 (mkF m 174 #[.val (.int p1), .val (.int p2), .val (.int p3), .val (.int p4), .val (.int p5), .val (.int p6), .val (.ref b21), .val (.int (p2 &&& (2147483647 : Int32))), .val (.int (p4 &&& (2147483647 : Int32))), .val (.int (p5 &&& (2147483647 : Int32))), .val (.int mA), .val (.int mB), .val (.int r_48), .val (.int r_52), .val .null, .val (own_val oa), .val (own_val ob), .val .null, .unset, .unset, .unset, .unset] [(.int mA)]) t) => q101 t (by
          show Go p e below T75 (mkF m 155 #[.val (.int p1), .val (.int p2), .val (.int p3), .val (.int p4), .val (.int p5), .val (.int p6), .val (.ref b21), .val (.int (p2 &&& (2147483647 : Int32))), .val (.int (p4 &&& (2147483647 : Int32))), .val (.int (p5 &&& (2147483647 : Int32))), .val (.int mA), .val (.int mB), .val (.int r_48), .val (.int r_52), .val .null, .val (own_val oa), .val (own_val ob), .val .null, .unset, .unset, .unset, .unset] [(.int p3), (.int r_48)]) _
          refine XS.icmpYes X75.here hx rfl (pc0 := 155) (pc' := 172) rfl (hb hby at_155) rfl (feq hc102).2 (by decide) (by decide) ?_
          show Go p e below T75 (mkF m 172 #[.val (.int p1), .val (.int p2), .val (.int p3), .val (.int p4), .val (.int p5), .val (.int p6), .val (.ref b21), .val (.int (p2 &&& (2147483647 : Int32))), .val (.int (p4 &&& (2147483647 : Int32))), .val (.int (p5 &&& (2147483647 : Int32))), .val (.int mA), .val (.int mB), .val (.int r_48), .val (.int r_52), .val .null, .val (own_val oa), .val (own_val ob), .val .null, .unset, .unset, .unset, .unset] []) _
          refine XS.iload X75.here hx rfl (hb hby at_172) rfl ?_
          exact kt)
        by_cases hc117 : mA = (0 : Int32)
        · have q118 := fun t (kt : Go p e below T75 (mkF m 194 #[.val (.int p1), .val (.int p2), .val (.int p3), .val (.int p4), .val (.int p5), .val (.int p6), .val (.ref b21), .val (.int (p2 &&& (2147483647 : Int32))), .val (.int (p4 &&& (2147483647 : Int32))), .val (.int (p5 &&& (2147483647 : Int32))), .val (.int mA), .val (.int mB), .val (.int r_48), .val (.int r_52), .val .null, .val (own_val oa), .val (own_val ob), .val .null, .unset, .unset, .unset, .unset] []) t) => q116 t (by
            show Go p e below T75 (mkF m 174 #[.val (.int p1), .val (.int p2), .val (.int p3), .val (.int p4), .val (.int p5), .val (.int p6), .val (.ref b21), .val (.int (p2 &&& (2147483647 : Int32))), .val (.int (p4 &&& (2147483647 : Int32))), .val (.int (p5 &&& (2147483647 : Int32))), .val (.int mA), .val (.int mB), .val (.int r_48), .val (.int r_52), .val .null, .val (own_val oa), .val (own_val ob), .val .null, .unset, .unset, .unset, .unset] [(.int mA)]) _
            refine XS.ifYes X75.here hx rfl (pc0 := 174) (pc' := 194) rfl (hb hby at_174) rfl ((if0 _ _).trans (teq hc117).1) (by decide) (by decide) ?_
            exact kt)
          exact ⟨T75, _, none, X75, e75, N75, (((own_exp mp62_0 mp75_0 mp37_0 mp42_0 (s := r_48) (f := r_52) (own_nn3 pq52_0) (own_nn p2) (own_nn p4)).trans ((if_neg (fun q => hc102 q.2.1)).trans (if_neg (fun q => q.1 hc117)))).symm), q118⟩
        · have q119 := fun t (kt : Go p e below T75 (mkF m 180 #[.val (.int p1), .val (.int p2), .val (.int p3), .val (.int p4), .val (.int p5), .val (.int p6), .val (.ref b21), .val (.int (p2 &&& (2147483647 : Int32))), .val (.int (p4 &&& (2147483647 : Int32))), .val (.int (p5 &&& (2147483647 : Int32))), .val (.int mA), .val (.int mB), .val (.int r_48), .val (.int r_52), .val .null, .val (own_val oa), .val (own_val ob), .val .null, .unset, .unset, .unset, .unset] [(.int p1), (.int r_48)]) t) => q116 t (by
            show Go p e below T75 (mkF m 174 #[.val (.int p1), .val (.int p2), .val (.int p3), .val (.int p4), .val (.int p5), .val (.int p6), .val (.ref b21), .val (.int (p2 &&& (2147483647 : Int32))), .val (.int (p4 &&& (2147483647 : Int32))), .val (.int (p5 &&& (2147483647 : Int32))), .val (.int mA), .val (.int mB), .val (.int r_48), .val (.int r_52), .val .null, .val (own_val oa), .val (own_val ob), .val .null, .unset, .unset, .unset, .unset] [(.int mA)]) _
            refine XS.ifNo X75.here hx rfl (hb hby at_174) rfl ((if0 _ _).trans (feq hc117).1) ?_
            show Go p e below T75 (mkF m 177 #[.val (.int p1), .val (.int p2), .val (.int p3), .val (.int p4), .val (.int p5), .val (.int p6), .val (.ref b21), .val (.int (p2 &&& (2147483647 : Int32))), .val (.int (p4 &&& (2147483647 : Int32))), .val (.int (p5 &&& (2147483647 : Int32))), .val (.int mA), .val (.int mB), .val (.int r_48), .val (.int r_52), .val .null, .val (own_val oa), .val (own_val ob), .val .null, .unset, .unset, .unset, .unset] []) _
            refine XS.iload X75.here hx rfl (hb hby at_177) rfl ?_
            show Go p e below T75 (mkF m 179 #[.val (.int p1), .val (.int p2), .val (.int p3), .val (.int p4), .val (.int p5), .val (.int p6), .val (.ref b21), .val (.int (p2 &&& (2147483647 : Int32))), .val (.int (p4 &&& (2147483647 : Int32))), .val (.int (p5 &&& (2147483647 : Int32))), .val (.int mA), .val (.int mB), .val (.int r_48), .val (.int r_52), .val .null, .val (own_val oa), .val (own_val ob), .val .null, .unset, .unset, .unset, .unset] [(.int r_48)]) _
            refine XS.iloadN X75.here hx rfl (hb hby at_179) rfl ?_
            exact kt)
          by_cases hc120 : r_48 = p1
          · have q121 := fun t (kt : Go p e below T75 (mkF m 187 #[.val (.int p1), .val (.int p2), .val (.int p3), .val (.int p4), .val (.int p5), .val (.int p6), .val (.ref b21), .val (.int (p2 &&& (2147483647 : Int32))), .val (.int (p4 &&& (2147483647 : Int32))), .val (.int (p5 &&& (2147483647 : Int32))), .val (.int mA), .val (.int mB), .val (.int r_48), .val (.int r_52), .val .null, .val (own_val oa), .val (own_val ob), .val .null, .unset, .unset, .unset, .unset] [(.int (p2 &&& (2147483647 : Int32))), (.int r_52)]) t) => q119 t (by
              show Go p e below T75 (mkF m 180 #[.val (.int p1), .val (.int p2), .val (.int p3), .val (.int p4), .val (.int p5), .val (.int p6), .val (.ref b21), .val (.int (p2 &&& (2147483647 : Int32))), .val (.int (p4 &&& (2147483647 : Int32))), .val (.int (p5 &&& (2147483647 : Int32))), .val (.int mA), .val (.int mB), .val (.int r_48), .val (.int r_52), .val .null, .val (own_val oa), .val (own_val ob), .val .null, .unset, .unset, .unset, .unset] [(.int p1), (.int r_48)]) _
              refine XS.icmpNo X75.here hx rfl (hb hby at_180) rfl (teq hc120).2 ?_
              show Go p e below T75 (mkF m 183 #[.val (.int p1), .val (.int p2), .val (.int p3), .val (.int p4), .val (.int p5), .val (.int p6), .val (.ref b21), .val (.int (p2 &&& (2147483647 : Int32))), .val (.int (p4 &&& (2147483647 : Int32))), .val (.int (p5 &&& (2147483647 : Int32))), .val (.int mA), .val (.int mB), .val (.int r_48), .val (.int r_52), .val .null, .val (own_val oa), .val (own_val ob), .val .null, .unset, .unset, .unset, .unset] []) _
              refine XS.iload X75.here hx rfl (hb hby at_183) rfl ?_
              show Go p e below T75 (mkF m 185 #[.val (.int p1), .val (.int p2), .val (.int p3), .val (.int p4), .val (.int p5), .val (.int p6), .val (.ref b21), .val (.int (p2 &&& (2147483647 : Int32))), .val (.int (p4 &&& (2147483647 : Int32))), .val (.int (p5 &&& (2147483647 : Int32))), .val (.int mA), .val (.int mB), .val (.int r_48), .val (.int r_52), .val .null, .val (own_val oa), .val (own_val ob), .val .null, .unset, .unset, .unset, .unset] [(.int r_52)]) _
              refine XS.iload X75.here hx rfl (hb hby at_185) rfl ?_
              exact kt)
            by_cases hc122 : r_52 = (p2 &&& (2147483647 : Int32))
            · have q123 := fun t (kt : Go p e below T75 (mkF m 194 #[.val (.int p1), .val (.int p2), .val (.int p3), .val (.int p4), .val (.int p5), .val (.int p6), .val (.ref b21), .val (.int (p2 &&& (2147483647 : Int32))), .val (.int (p4 &&& (2147483647 : Int32))), .val (.int (p5 &&& (2147483647 : Int32))), .val (.int mA), .val (.int mB), .val (.int r_48), .val (.int r_52), .val .null, .val (own_val oa), .val (own_val ob), .val (own_val oa), .unset, .unset, .unset, .unset] []) t) => q121 t (by
                show Go p e below T75 (mkF m 187 #[.val (.int p1), .val (.int p2), .val (.int p3), .val (.int p4), .val (.int p5), .val (.int p6), .val (.ref b21), .val (.int (p2 &&& (2147483647 : Int32))), .val (.int (p4 &&& (2147483647 : Int32))), .val (.int (p5 &&& (2147483647 : Int32))), .val (.int mA), .val (.int mB), .val (.int r_48), .val (.int r_52), .val .null, .val (own_val oa), .val (own_val ob), .val .null, .unset, .unset, .unset, .unset] [(.int (p2 &&& (2147483647 : Int32))), (.int r_52)]) _
                refine XS.icmpNo X75.here hx rfl (hb hby at_187) rfl (teq hc122).2 ?_
                show Go p e below T75 (mkF m 190 #[.val (.int p1), .val (.int p2), .val (.int p3), .val (.int p4), .val (.int p5), .val (.int p6), .val (.ref b21), .val (.int (p2 &&& (2147483647 : Int32))), .val (.int (p4 &&& (2147483647 : Int32))), .val (.int (p5 &&& (2147483647 : Int32))), .val (.int mA), .val (.int mB), .val (.int r_48), .val (.int r_52), .val .null, .val (own_val oa), .val (own_val ob), .val .null, .unset, .unset, .unset, .unset] []) _
                refine XS.aload X75.here hx rfl (hb hby at_190) rfl (own_val_ref _) ?_
                show Go p e below T75 (mkF m 192 #[.val (.int p1), .val (.int p2), .val (.int p3), .val (.int p4), .val (.int p5), .val (.int p6), .val (.ref b21), .val (.int (p2 &&& (2147483647 : Int32))), .val (.int (p4 &&& (2147483647 : Int32))), .val (.int (p5 &&& (2147483647 : Int32))), .val (.int mA), .val (.int mB), .val (.int r_48), .val (.int r_52), .val .null, .val (own_val oa), .val (own_val ob), .val .null, .unset, .unset, .unset, .unset] [(own_val oa)]) _
                refine XS.astoreS X75.here hx rfl (hb hby at_192) rfl (own_val_ref _) (XT.cat1 (own_val_ref _)) rfl (Or.inr ⟨_, rfl, rfl⟩) ?_
                exact kt)
              exact ⟨T75, _, oa, X75, e75, N75, (((own_exp mp62_0 mp75_0 mp37_0 mp42_0 (s := r_48) (f := r_52) (own_nn3 pq52_0) (own_nn p2) (own_nn p4)).trans ((if_neg (fun q => hc102 q.2.1)).trans (if_pos ⟨hc117, hc120, hc122⟩))).symm), q123⟩
            · have q124 := fun t (kt : Go p e below T75 (mkF m 194 #[.val (.int p1), .val (.int p2), .val (.int p3), .val (.int p4), .val (.int p5), .val (.int p6), .val (.ref b21), .val (.int (p2 &&& (2147483647 : Int32))), .val (.int (p4 &&& (2147483647 : Int32))), .val (.int (p5 &&& (2147483647 : Int32))), .val (.int mA), .val (.int mB), .val (.int r_48), .val (.int r_52), .val .null, .val (own_val oa), .val (own_val ob), .val .null, .unset, .unset, .unset, .unset] []) t) => q121 t (by
                show Go p e below T75 (mkF m 187 #[.val (.int p1), .val (.int p2), .val (.int p3), .val (.int p4), .val (.int p5), .val (.int p6), .val (.ref b21), .val (.int (p2 &&& (2147483647 : Int32))), .val (.int (p4 &&& (2147483647 : Int32))), .val (.int (p5 &&& (2147483647 : Int32))), .val (.int mA), .val (.int mB), .val (.int r_48), .val (.int r_52), .val .null, .val (own_val oa), .val (own_val ob), .val .null, .unset, .unset, .unset, .unset] [(.int (p2 &&& (2147483647 : Int32))), (.int r_52)]) _
                refine XS.icmpYes X75.here hx rfl (pc0 := 187) (pc' := 194) rfl (hb hby at_187) rfl (feq hc122).2 (by decide) (by decide) ?_
                exact kt)
              exact ⟨T75, _, none, X75, e75, N75, (((own_exp mp62_0 mp75_0 mp37_0 mp42_0 (s := r_48) (f := r_52) (own_nn3 pq52_0) (own_nn p2) (own_nn p4)).trans ((if_neg (fun q => hc102 q.2.1)).trans (if_neg (fun q => hc122 q.2.2)))).symm), q124⟩
          · have q125 := fun t (kt : Go p e below T75 (mkF m 194 #[.val (.int p1), .val (.int p2), .val (.int p3), .val (.int p4), .val (.int p5), .val (.int p6), .val (.ref b21), .val (.int (p2 &&& (2147483647 : Int32))), .val (.int (p4 &&& (2147483647 : Int32))), .val (.int (p5 &&& (2147483647 : Int32))), .val (.int mA), .val (.int mB), .val (.int r_48), .val (.int r_52), .val .null, .val (own_val oa), .val (own_val ob), .val .null, .unset, .unset, .unset, .unset] []) t) => q119 t (by
              show Go p e below T75 (mkF m 180 #[.val (.int p1), .val (.int p2), .val (.int p3), .val (.int p4), .val (.int p5), .val (.int p6), .val (.ref b21), .val (.int (p2 &&& (2147483647 : Int32))), .val (.int (p4 &&& (2147483647 : Int32))), .val (.int (p5 &&& (2147483647 : Int32))), .val (.int mA), .val (.int mB), .val (.int r_48), .val (.int r_52), .val .null, .val (own_val oa), .val (own_val ob), .val .null, .unset, .unset, .unset, .unset] [(.int p1), (.int r_48)]) _
              refine XS.icmpYes X75.here hx rfl (pc0 := 180) (pc' := 194) rfl (hb hby at_180) rfl (feq hc120).2 (by decide) (by decide) ?_
              exact kt)
            exact ⟨T75, _, none, X75, e75, N75, (((own_exp mp62_0 mp75_0 mp37_0 mp42_0 (s := r_48) (f := r_52) (own_nn3 pq52_0) (own_nn p2) (own_nn p4)).trans ((if_neg (fun q => hc102 q.2.1)).trans (if_neg (fun q => hc120 q.2.1)))).symm), q125⟩
  have q126 := fun t (kt : Go p e below T88 (mkF m 200 #[.val (.int p1), .val (.int p2), .val (.int p3), .val (.int p4), .val (.int p5), .val (.int p6), .val (.ref b21), .val (.int (p2 &&& (2147483647 : Int32))), .val (.int (p4 &&& (2147483647 : Int32))), .val (.int (p5 &&& (2147483647 : Int32))), .val (.int mA), .val (.int mB), .val (.int r_48), .val (.int r_52), .val .null, .val (own_val oa), .val (own_val ob), .val (own_val oe), .unset, .unset, .unset, .unset] [(.int r_52), (.int r_48), (.ref b21)]) t) => q88 t (by
    show Go p e below T88 (mkF m 194 #[.val (.int p1), .val (.int p2), .val (.int p3), .val (.int p4), .val (.int p5), .val (.int p6), .val (.ref b21), .val (.int (p2 &&& (2147483647 : Int32))), .val (.int (p4 &&& (2147483647 : Int32))), .val (.int (p5 &&& (2147483647 : Int32))), .val (.int mA), .val (.int mB), .val (.int r_48), .val (.int r_52), .val .null, .val (own_val oa), .val (own_val ob), .val (own_val oe), .unset, .unset, .unset, .unset] []) _
    refine XS.aload X88.here hx rfl (hb hby at_194) rfl rfl ?_
    show Go p e below T88 (mkF m 196 #[.val (.int p1), .val (.int p2), .val (.int p3), .val (.int p4), .val (.int p5), .val (.int p6), .val (.ref b21), .val (.int (p2 &&& (2147483647 : Int32))), .val (.int (p4 &&& (2147483647 : Int32))), .val (.int (p5 &&& (2147483647 : Int32))), .val (.int mA), .val (.int mB), .val (.int r_48), .val (.int r_52), .val .null, .val (own_val oa), .val (own_val ob), .val (own_val oe), .unset, .unset, .unset, .unset] [(.ref b21)]) _
    refine XS.iload X88.here hx rfl (hb hby at_196) rfl ?_
    show Go p e below T88 (mkF m 198 #[.val (.int p1), .val (.int p2), .val (.int p3), .val (.int p4), .val (.int p5), .val (.int p6), .val (.ref b21), .val (.int (p2 &&& (2147483647 : Int32))), .val (.int (p4 &&& (2147483647 : Int32))), .val (.int (p5 &&& (2147483647 : Int32))), .val (.int mA), .val (.int mB), .val (.int r_48), .val (.int r_52), .val .null, .val (own_val oa), .val (own_val ob), .val (own_val oe), .unset, .unset, .unset, .unset] [(.int r_48), (.ref b21)]) _
    refine XS.iload X88.here hx rfl (hb hby at_198) rfl ?_
    exact kt)
  obtain ⟨cq128, kq128, q128a, q128b, q128c⟩ := isOf hZ e88 mf75_0
  obtain ⟨_, _, ⟨T127, L127, k127, n127⟩, -, X127, ⟨Lc127, hQ127, l127, y127, z127⟩, st127⟩ := X88.virtualBack hx (y := (⟨"com/example/pointward/pointward/pointsto/ConstraintGraph", "existingField", "(II)Lcom/example/pointward/pointward/pointsto/ConstraintGraph$Node;"⟩ : MethodName)) (z := (⟨"com/example/pointward/pointward/pointsto/ConstraintGraph", "existingField", "(II)Lcom/example/pointward/pointward/pointsto/ConstraintGraph$Node;"⟩ : MethodName)) hown (mvT hZ (own_w hw 50 rfl)) (mvT hZ (own_w hw 51 rfl)) (notFace_of_selects (args := #[]) (mvT hZ (own_w hw 53 rfl))) (mvT hZ (own_w hw 53 rfl)) (mvT hZ (own_w hw 52 rfl)) (by decide) (backOf (W := 0) (rm7 l Z a0 hw [] cx b21 r_48 r_52 tl_26 ka_26 va_26 M2 n2 h75 n0 O75 mf75_1 mf75_3 (by omega : n2 ≤ 3)) hZ (own_w hw 54 rfl) (own_w hw 2 rfl) (by decide) (by decide)) q128a q128c (g := (mkF m 200 #[.val (.int p1), .val (.int p2), .val (.int p3), .val (.int p4), .val (.int p5), .val (.int p6), .val (.ref b21), .val (.int (p2 &&& (2147483647 : Int32))), .val (.int (p4 &&& (2147483647 : Int32))), .val (.int (p5 &&& (2147483647 : Int32))), .val (.int mA), .val (.int mB), .val (.int r_48), .val (.int r_52), .val .null, .val (own_val oa), .val (own_val ob), .val (own_val oe), .unset, .unset, .unset, .unset] [(.int r_52), (.int r_48), (.ref b21)])) rfl (by rw [hml]; rfl) (Steps.refl _) (argsL := [(.int r_48), (.int r_52)]) (rest := []) (lenOf pd_8 rfl) rfl (by show 2 * 0 + _ ≤ _; exact Nat.le_of_eq rfl) (hb hby at_200) (fun _ _ => ⟨rfl, e88, (by decide : 17 + 0 ≤ _), (by decide : 120 + 0 ≤ _)⟩)
  dsimp only [Pt.U, Pt.locs, Pt.cells, Pt.slots] at X127 l127 y127 z127 st127 hQ127
  subst l127 y127 z127
  obtain ⟨rfl, Nq127, eq127⟩ := hQ127
  have N129 := Fr.app N88 Nq127
  have q130 := fun t (kt : Go p e below T127 (mkF m 203 #[.val (.int p1), .val (.int p2), .val (.int p3), .val (.int p4), .val (.int p5), .val (.int p6), .val (.ref b21), .val (.int (p2 &&& (2147483647 : Int32))), .val (.int (p4 &&& (2147483647 : Int32))), .val (.int (p5 &&& (2147483647 : Int32))), .val (.int mA), .val (.int mB), .val (.int r_48), .val (.int r_52), .val .null, .val (own_val oa), .val (own_val ob), .val (own_val oe), .unset, .unset, .unset, .unset] [(own_val (M2 (own_key r_48 r_52)))]) t) => q126 t (st127.trans kt)
  have q131 := fun t (kt : Go p e below T127 (mkF m 220 #[.val (.int p1), .val (.int p2), .val (.int p3), .val (.int p4), .val (.int p5), .val (.int p6), .val (.ref b21), .val (.int (p2 &&& (2147483647 : Int32))), .val (.int (p4 &&& (2147483647 : Int32))), .val (.int (p5 &&& (2147483647 : Int32))), .val (.int mA), .val (.int mB), .val (.int r_48), .val (.int r_52), .val .null, .val (own_val oa), .val (own_val ob), .val (own_val oe), .val (own_val (M2 (own_key r_48 r_52))), .unset, .unset, .unset] [(.int r_52), (.int r_48), (.ref b21)]) t) => q130 t (by
    show Go p e below T127 (mkF m 203 #[.val (.int p1), .val (.int p2), .val (.int p3), .val (.int p4), .val (.int p5), .val (.int p6), .val (.ref b21), .val (.int (p2 &&& (2147483647 : Int32))), .val (.int (p4 &&& (2147483647 : Int32))), .val (.int (p5 &&& (2147483647 : Int32))), .val (.int mA), .val (.int mB), .val (.int r_48), .val (.int r_52), .val .null, .val (own_val oa), .val (own_val ob), .val (own_val oe), .unset, .unset, .unset, .unset] [(own_val (M2 (own_key r_48 r_52)))]) _
    refine XS.astoreS X127.here hx rfl (hb hby at_203) rfl (own_val_ref _) (XT.cat1 (own_val_ref _)) rfl (Or.inl rfl) ?_
    show Go p e below T127 (mkF m 205 #[.val (.int p1), .val (.int p2), .val (.int p3), .val (.int p4), .val (.int p5), .val (.int p6), .val (.ref b21), .val (.int (p2 &&& (2147483647 : Int32))), .val (.int (p4 &&& (2147483647 : Int32))), .val (.int (p5 &&& (2147483647 : Int32))), .val (.int mA), .val (.int mB), .val (.int r_48), .val (.int r_52), .val .null, .val (own_val oa), .val (own_val ob), .val (own_val oe), .val (own_val (M2 (own_key r_48 r_52))), .unset, .unset, .unset] []) _
    refine XS.aload X127.here hx rfl (hb hby at_205) rfl (own_val_ref _) ?_
    show Go p e below T127 (mkF m 207 #[.val (.int p1), .val (.int p2), .val (.int p3), .val (.int p4), .val (.int p5), .val (.int p6), .val (.ref b21), .val (.int (p2 &&& (2147483647 : Int32))), .val (.int (p4 &&& (2147483647 : Int32))), .val (.int (p5 &&& (2147483647 : Int32))), .val (.int mA), .val (.int mB), .val (.int r_48), .val (.int r_52), .val .null, .val (own_val oa), .val (own_val ob), .val (own_val oe), .val (own_val (M2 (own_key r_48 r_52))), .unset, .unset, .unset] [(own_val (M2 (own_key r_48 r_52)))]) _
    refine XS.aload X127.here hx rfl (hb hby at_207) rfl (own_val_ref _) ?_
    show Go p e below T127 (mkF m 209 #[.val (.int p1), .val (.int p2), .val (.int p3), .val (.int p4), .val (.int p5), .val (.int p6), .val (.ref b21), .val (.int (p2 &&& (2147483647 : Int32))), .val (.int (p4 &&& (2147483647 : Int32))), .val (.int (p5 &&& (2147483647 : Int32))), .val (.int mA), .val (.int mB), .val (.int r_48), .val (.int r_52), .val .null, .val (own_val oa), .val (own_val ob), .val (own_val oe), .val (own_val (M2 (own_key r_48 r_52))), .unset, .unset, .unset] [(own_val oe), (own_val (M2 (own_key r_48 r_52)))]) _
    refine Jvm.RoadKit.acmp (g := (mkF m 209 #[.val (.int p1), .val (.int p2), .val (.int p3), .val (.int p4), .val (.int p5), .val (.int p6), .val (.ref b21), .val (.int (p2 &&& (2147483647 : Int32))), .val (.int (p4 &&& (2147483647 : Int32))), .val (.int (p5 &&& (2147483647 : Int32))), .val (.int mA), .val (.int mB), .val (.int r_48), .val (.int r_52), .val .null, .val (own_val oa), .val (own_val ob), .val (own_val oe), .val (own_val (M2 (own_key r_48 r_52))), .unset, .unset, .unset] [(own_val oe), (own_val (M2 (own_key r_48 r_52)))])) X127 hx rfl (own_val_ref _) (own_val_ref _) (pc0 := 209) (pc' := 214) (same := true) rfl (hb hby at_209) rfl (decide_eq_true (congrArg own_val mp88_0.symm)) (by decide) (by decide) ?_
    show Go p e below T127 (mkF m 214 #[.val (.int p1), .val (.int p2), .val (.int p3), .val (.int p4), .val (.int p5), .val (.int p6), .val (.ref b21), .val (.int (p2 &&& (2147483647 : Int32))), .val (.int (p4 &&& (2147483647 : Int32))), .val (.int (p5 &&& (2147483647 : Int32))), .val (.int mA), .val (.int mB), .val (.int r_48), .val (.int r_52), .val .null, .val (own_val oa), .val (own_val ob), .val (own_val oe), .val (own_val (M2 (own_key r_48 r_52))), .unset, .unset, .unset] []) _
    refine XS.aload X127.here hx rfl (hb hby at_214) rfl rfl ?_
    show Go p e below T127 (mkF m 216 #[.val (.int p1), .val (.int p2), .val (.int p3), .val (.int p4), .val (.int p5), .val (.int p6), .val (.ref b21), .val (.int (p2 &&& (2147483647 : Int32))), .val (.int (p4 &&& (2147483647 : Int32))), .val (.int (p5 &&& (2147483647 : Int32))), .val (.int mA), .val (.int mB), .val (.int r_48), .val (.int r_52), .val .null, .val (own_val oa), .val (own_val ob), .val (own_val oe), .val (own_val (M2 (own_key r_48 r_52))), .unset, .unset, .unset] [(.ref b21)]) _
    refine XS.iload X127.here hx rfl (hb hby at_216) rfl ?_
    show Go p e below T127 (mkF m 218 #[.val (.int p1), .val (.int p2), .val (.int p3), .val (.int p4), .val (.int p5), .val (.int p6), .val (.ref b21), .val (.int (p2 &&& (2147483647 : Int32))), .val (.int (p4 &&& (2147483647 : Int32))), .val (.int (p5 &&& (2147483647 : Int32))), .val (.int mA), .val (.int mB), .val (.int r_48), .val (.int r_52), .val .null, .val (own_val oa), .val (own_val ob), .val (own_val oe), .val (own_val (M2 (own_key r_48 r_52))), .unset, .unset, .unset] [(.int r_48), (.ref b21)]) _
    refine XS.iload X127.here hx rfl (hb hby at_218) rfl ?_
    exact kt)
  obtain ⟨cq133, kq133, q133a, q133b, q133c⟩ := isOf hZ eq127 mf75_0
  obtain ⟨_, _, ⟨T132, L132, k132, n132⟩, -, X132, ⟨Lc132, hQ132, l132, y132, z132⟩, st132⟩ := X127.virtualBack hx (y := (⟨"com/example/pointward/pointward/pointsto/ConstraintGraph", "existingField", "(II)Lcom/example/pointward/pointward/pointsto/ConstraintGraph$Node;"⟩ : MethodName)) (z := (⟨"com/example/pointward/pointward/pointsto/ConstraintGraph", "existingField", "(II)Lcom/example/pointward/pointward/pointsto/ConstraintGraph$Node;"⟩ : MethodName)) hown (mvT hZ (own_w hw 50 rfl)) (mvT hZ (own_w hw 51 rfl)) (notFace_of_selects (args := #[]) (mvT hZ (own_w hw 53 rfl))) (mvT hZ (own_w hw 53 rfl)) (mvT hZ (own_w hw 52 rfl)) (by decide) (backOf (W := 0) (rm7 l Z a0 hw [] cx b21 r_48 r_52 tl_26 ka_26 va_26 M2 n2 h75 n0 O75 mf75_1 mf75_3 (by omega : n2 ≤ 3)) hZ (own_w hw 54 rfl) (own_w hw 2 rfl) (by decide) (by decide)) q133a q133c (g := (mkF m 220 #[.val (.int p1), .val (.int p2), .val (.int p3), .val (.int p4), .val (.int p5), .val (.int p6), .val (.ref b21), .val (.int (p2 &&& (2147483647 : Int32))), .val (.int (p4 &&& (2147483647 : Int32))), .val (.int (p5 &&& (2147483647 : Int32))), .val (.int mA), .val (.int mB), .val (.int r_48), .val (.int r_52), .val .null, .val (own_val oa), .val (own_val ob), .val (own_val oe), .val (own_val (M2 (own_key r_48 r_52))), .unset, .unset, .unset] [(.int r_52), (.int r_48), (.ref b21)])) rfl (by rw [hml]; rfl) (Steps.refl _) (argsL := [(.int r_48), (.int r_52)]) (rest := []) (lenOf pd_8 rfl) rfl (by show 2 * 0 + _ ≤ _; exact Nat.le_of_eq rfl) (hb hby at_220) (fun _ _ => ⟨rfl, eq127, (by decide : 17 + 0 ≤ _), (by decide : 120 + 0 ≤ _)⟩)
  dsimp only [Pt.U, Pt.locs, Pt.cells, Pt.slots] at X132 l132 y132 z132 st132 hQ132
  subst l132 y132 z132
  obtain ⟨rfl, Nq132, eq132⟩ := hQ132
  have N134 := Fr.app N129 Nq132
  have q135 := fun t (kt : Go p e below T132 (mkF m 223 #[.val (.int p1), .val (.int p2), .val (.int p3), .val (.int p4), .val (.int p5), .val (.int p6), .val (.ref b21), .val (.int (p2 &&& (2147483647 : Int32))), .val (.int (p4 &&& (2147483647 : Int32))), .val (.int (p5 &&& (2147483647 : Int32))), .val (.int mA), .val (.int mB), .val (.int r_48), .val (.int r_52), .val .null, .val (own_val oa), .val (own_val ob), .val (own_val oe), .val (own_val (M2 (own_key r_48 r_52))), .unset, .unset, .unset] [(own_val (M2 (own_key r_48 r_52)))]) t) => q131 t (st132.trans kt)
  have q136 := fun t (kt : Go p e below T132 (mkF m 237 #[.val (.int p1), .val (.int p2), .val (.int p3), .val (.int p4), .val (.int p5), .val (.int p6), .val (.ref b21), .val (.int (p2 &&& (2147483647 : Int32))), .val (.int (p4 &&& (2147483647 : Int32))), .val (.int (p5 &&& (2147483647 : Int32))), .val (.int mA), .val (.int mB), .val (.int r_48), .val (.int r_52), .val .null, .val (own_val oa), .val (own_val ob), .val (own_val oe), .val (own_val (M2 (own_key r_48 r_52))), .val (own_val (M2 (own_key r_48 r_52))), .val .null, .unset] []) t) => q135 t (by
    show Go p e below T132 (mkF m 223 #[.val (.int p1), .val (.int p2), .val (.int p3), .val (.int p4), .val (.int p5), .val (.int p6), .val (.ref b21), .val (.int (p2 &&& (2147483647 : Int32))), .val (.int (p4 &&& (2147483647 : Int32))), .val (.int (p5 &&& (2147483647 : Int32))), .val (.int mA), .val (.int mB), .val (.int r_48), .val (.int r_52), .val .null, .val (own_val oa), .val (own_val ob), .val (own_val oe), .val (own_val (M2 (own_key r_48 r_52))), .unset, .unset, .unset] [(own_val (M2 (own_key r_48 r_52)))]) _
    refine XS.astoreS X132.here hx rfl (hb hby at_223) rfl (own_val_ref _) (XT.cat1 (own_val_ref _)) rfl (Or.inl rfl) ?_
    show Go p e below T132 (mkF m 225 #[.val (.int p1), .val (.int p2), .val (.int p3), .val (.int p4), .val (.int p5), .val (.int p6), .val (.ref b21), .val (.int (p2 &&& (2147483647 : Int32))), .val (.int (p4 &&& (2147483647 : Int32))), .val (.int (p5 &&& (2147483647 : Int32))), .val (.int mA), .val (.int mB), .val (.int r_48), .val (.int r_52), .val .null, .val (own_val oa), .val (own_val ob), .val (own_val oe), .val (own_val (M2 (own_key r_48 r_52))), .val (own_val (M2 (own_key r_48 r_52))), .unset, .unset] []) _
    refine XS.aload X132.here hx rfl (hb hby at_225) rfl (own_val_ref _) ?_
    show Go p e below T132 (mkF m 227 #[.val (.int p1), .val (.int p2), .val (.int p3), .val (.int p4), .val (.int p5), .val (.int p6), .val (.ref b21), .val (.int (p2 &&& (2147483647 : Int32))), .val (.int (p4 &&& (2147483647 : Int32))), .val (.int (p5 &&& (2147483647 : Int32))), .val (.int mA), .val (.int mB), .val (.int r_48), .val (.int r_52), .val .null, .val (own_val oa), .val (own_val ob), .val (own_val oe), .val (own_val (M2 (own_key r_48 r_52))), .val (own_val (M2 (own_key r_48 r_52))), .unset, .unset] [(own_val (M2 (own_key r_48 r_52)))]) _
    refine XS.aload X132.here hx rfl (hb hby at_227) rfl (own_val_ref _) ?_
    show Go p e below T132 (mkF m 229 #[.val (.int p1), .val (.int p2), .val (.int p3), .val (.int p4), .val (.int p5), .val (.int p6), .val (.ref b21), .val (.int (p2 &&& (2147483647 : Int32))), .val (.int (p4 &&& (2147483647 : Int32))), .val (.int (p5 &&& (2147483647 : Int32))), .val (.int mA), .val (.int mB), .val (.int r_48), .val (.int r_52), .val .null, .val (own_val oa), .val (own_val ob), .val (own_val oe), .val (own_val (M2 (own_key r_48 r_52))), .val (own_val (M2 (own_key r_48 r_52))), .unset, .unset] [(own_val oe), (own_val (M2 (own_key r_48 r_52)))]) _
    refine Jvm.RoadKit.acmp (g := (mkF m 229 #[.val (.int p1), .val (.int p2), .val (.int p3), .val (.int p4), .val (.int p5), .val (.int p6), .val (.ref b21), .val (.int (p2 &&& (2147483647 : Int32))), .val (.int (p4 &&& (2147483647 : Int32))), .val (.int (p5 &&& (2147483647 : Int32))), .val (.int mA), .val (.int mB), .val (.int r_48), .val (.int r_52), .val .null, .val (own_val oa), .val (own_val ob), .val (own_val oe), .val (own_val (M2 (own_key r_48 r_52))), .val (own_val (M2 (own_key r_48 r_52))), .unset, .unset] [(own_val oe), (own_val (M2 (own_key r_48 r_52)))])) X132 hx rfl (own_val_ref _) (own_val_ref _) (pc0 := 229) (pc' := 234) (same := true) rfl (hb hby at_229) rfl (decide_eq_true (congrArg own_val mp88_0.symm)) (by decide) (by decide) ?_
    show Go p e below T132 (mkF m 234 #[.val (.int p1), .val (.int p2), .val (.int p3), .val (.int p4), .val (.int p5), .val (.int p6), .val (.ref b21), .val (.int (p2 &&& (2147483647 : Int32))), .val (.int (p4 &&& (2147483647 : Int32))), .val (.int (p5 &&& (2147483647 : Int32))), .val (.int mA), .val (.int mB), .val (.int r_48), .val (.int r_52), .val .null, .val (own_val oa), .val (own_val ob), .val (own_val oe), .val (own_val (M2 (own_key r_48 r_52))), .val (own_val (M2 (own_key r_48 r_52))), .unset, .unset] []) _
    refine XS.aconstNull X132.here hx rfl (hb hby at_234) ?_
    show Go p e below T132 (mkF m 235 #[.val (.int p1), .val (.int p2), .val (.int p3), .val (.int p4), .val (.int p5), .val (.int p6), .val (.ref b21), .val (.int (p2 &&& (2147483647 : Int32))), .val (.int (p4 &&& (2147483647 : Int32))), .val (.int (p5 &&& (2147483647 : Int32))), .val (.int mA), .val (.int mB), .val (.int r_48), .val (.int r_52), .val .null, .val (own_val oa), .val (own_val ob), .val (own_val oe), .val (own_val (M2 (own_key r_48 r_52))), .val (own_val (M2 (own_key r_48 r_52))), .unset, .unset] [.null]) _
    refine XS.astore X132.here hx rfl (hb hby at_235) rfl rfl (l' := #[.val (.int p1), .val (.int p2), .val (.int p3), .val (.int p4), .val (.int p5), .val (.int p6), .val (.ref b21), .val (.int (p2 &&& (2147483647 : Int32))), .val (.int (p4 &&& (2147483647 : Int32))), .val (.int (p5 &&& (2147483647 : Int32))), .val (.int mA), .val (.int mB), .val (.int r_48), .val (.int r_52), .val .null, .val (own_val oa), .val (own_val ob), .val (own_val oe), .val (own_val (M2 (own_key r_48 r_52))), .val (own_val (M2 (own_key r_48 r_52))), .val .null, .unset]) rfl ?_
    exact kt)
  obtain ⟨T137, lo137, oA, X137, e137, N137, mp137_0, q137⟩ : ∃ (T137 : State) (lo137 : List Loc) (oA : Option Addr), Stand p l e room_1 s m #[(.int p1), (.int p2), (.int p3), (.int p4), (.int p5), (.int p6)] below meth c T137 lo137 17 120 ∧ T137.heap = h75 ∧ Fr n0 lo137 ∧ (oA = M2 (own_key p1 (p2 &&& (2147483647 : Int32)))) ∧ ∀ t, Go p e below T137 (mkF m 270 #[.val (.int p1), .val (.int p2), .val (.int p3), .val (.int p4), .val (.int p5), .val (.int p6), .val (.ref b21), .val (.int (p2 &&& (2147483647 : Int32))), .val (.int (p4 &&& (2147483647 : Int32))), .val (.int (p5 &&& (2147483647 : Int32))), .val (.int mA), .val (.int mB), .val (.int r_48), .val (.int r_52), .val .null, .val (own_val oa), .val (own_val ob), .val (own_val oe), .val (own_val (M2 (own_key r_48 r_52))), .val (own_val (M2 (own_key r_48 r_52))), .val (own_val oA), .unset] []) t → Go p e below s₁ (entryFrame m #[(.int p1), (.int p2), (.int p3), (.int p4), (.int p5), (.int p6)] maxLocals) t := by
    skip
    have q138 := fun t (kt : Go p e below T132 (mkF m 239 #[.val (.int p1), .val (.int p2), .val (.int p3), .val (.int p4), .val (.int p5), .val (.int p6), .val (.ref b21), .val (.int (p2 &&& (2147483647 : Int32))), .val (.int (p4 &&& (2147483647 : Int32))), .val (.int (p5 &&& (2147483647 : Int32))), .val (.int mA), .val (.int mB), .val (.int r_48), .val (.int r_52), .val .null, .val (own_val oa), .val (own_val ob), .val (own_val oe), .val (own_val (M2 (own_key r_48 r_52))), .val (own_val (M2 (own_key r_48 r_52))), .val .null, .unset] [(.int mB)]) t) => q136 t (by
      show Go p e below T132 (mkF m 237 #[.val (.int p1), .val (.int p2), .val (.int p3), .val (.int p4), .val (.int p5), .val (.int p6), .val (.ref b21), .val (.int (p2 &&& (2147483647 : Int32))), .val (.int (p4 &&& (2147483647 : Int32))), .val (.int (p5 &&& (2147483647 : Int32))), .val (.int mA), .val (.int mB), .val (.int r_48), .val (.int r_52), .val .null, .val (own_val oa), .val (own_val ob), .val (own_val oe), .val (own_val (M2 (own_key r_48 r_52))), .val (own_val (M2 (own_key r_48 r_52))), .val .null, .unset] []) _
      refine XS.iload X132.here hx rfl (hb hby at_237) rfl ?_
      exact kt)
    by_cases hc139 : mB = (0 : Int32)
    · have q140 := fun t (kt : Go p e below T132 (mkF m 263 #[.val (.int p1), .val (.int p2), .val (.int p3), .val (.int p4), .val (.int p5), .val (.int p6), .val (.ref b21), .val (.int (p2 &&& (2147483647 : Int32))), .val (.int (p4 &&& (2147483647 : Int32))), .val (.int (p5 &&& (2147483647 : Int32))), .val (.int mA), .val (.int mB), .val (.int r_48), .val (.int r_52), .val .null, .val (own_val oa), .val (own_val ob), .val (own_val oe), .val (own_val (M2 (own_key r_48 r_52))), .val (own_val (M2 (own_key r_48 r_52))), .val .null, .unset] [(.int mA)]) t) => q138 t (by
        show Go p e below T132 (mkF m 239 #[.val (.int p1), .val (.int p2), .val (.int p3), .val (.int p4), .val (.int p5), .val (.int p6), .val (.ref b21), .val (.int (p2 &&& (2147483647 : Int32))), .val (.int (p4 &&& (2147483647 : Int32))), .val (.int (p5 &&& (2147483647 : Int32))), .val (.int mA), .val (.int mB), .val (.int r_48), .val (.int r_52), .val .null, .val (own_val oa), .val (own_val ob), .val (own_val oe), .val (own_val (M2 (own_key r_48 r_52))), .val (own_val (M2 (own_key r_48 r_52))), .val .null, .unset] [(.int mB)]) _
        refine XS.ifYes X132.here hx rfl (pc0 := 239) (pc' := 261) rfl (hb hby at_239) rfl ((if0 _ _).trans (teq hc139).1) (by decide) (by decide) ?_
        show Go p e below T132 (mkF m 261 #[.val (.int p1), .val (.int p2), .val (.int p3), .val (.int p4), .val (.int p5), .val (.int p6), .val (.ref b21), .val (.int (p2 &&& (2147483647 : Int32))), .val (.int (p4 &&& (2147483647 : Int32))), .val (.int (p5 &&& (2147483647 : Int32))), .val (.int mA), .val (.int mB), .val (.int r_48), .val (.int r_52), .val .null, .val (own_val oa), .val (own_val ob), .val (own_val oe), .val (own_val (M2 (own_key r_48 r_52))), .val (own_val (M2 (own_key r_48 r_52))), .val .null, .unset] []) _
        refine XS.iload X132.here hx rfl (hb hby at_261) rfl ?_
        exact kt)
      by_cases hc141 : mA = (0 : Int32)
      · have q142 := fun t (kt : Go p e below T132 (mkF m 270 #[.val (.int p1), .val (.int p2), .val (.int p3), .val (.int p4), .val (.int p5), .val (.int p6), .val (.ref b21), .val (.int (p2 &&& (2147483647 : Int32))), .val (.int (p4 &&& (2147483647 : Int32))), .val (.int (p5 &&& (2147483647 : Int32))), .val (.int mA), .val (.int mB), .val (.int r_48), .val (.int r_52), .val .null, .val (own_val oa), .val (own_val ob), .val (own_val oe), .val (own_val (M2 (own_key r_48 r_52))), .val (own_val (M2 (own_key r_48 r_52))), .val .null, .unset] []) t) => q140 t (by
          show Go p e below T132 (mkF m 263 #[.val (.int p1), .val (.int p2), .val (.int p3), .val (.int p4), .val (.int p5), .val (.int p6), .val (.ref b21), .val (.int (p2 &&& (2147483647 : Int32))), .val (.int (p4 &&& (2147483647 : Int32))), .val (.int (p5 &&& (2147483647 : Int32))), .val (.int mA), .val (.int mB), .val (.int r_48), .val (.int r_52), .val .null, .val (own_val oa), .val (own_val ob), .val (own_val oe), .val (own_val (M2 (own_key r_48 r_52))), .val (own_val (M2 (own_key r_48 r_52))), .val .null, .unset] [(.int mA)]) _
          refine XS.ifYes X132.here hx rfl (pc0 := 263) (pc' := 270) rfl (hb hby at_263) rfl ((if0 _ _).trans (teq hc141).1) (by decide) (by decide) ?_
          exact kt)
        exact ⟨T132, _, none, X132, eq132, N134, (((own_exp mp62_0 mp75_0 mp37_0 mp42_0 (s := p1) (f := (p2 &&& (2147483647 : Int32))) (own_nn p2) (own_nn p2) (own_nn p4)).trans ((if_neg (fun q => q.1 hc139)).trans (if_neg (fun q => q.1 hc141)))).symm), q142⟩
      · have q143 := fun t (kt : Go p e below T132 (mkF m 270 #[.val (.int p1), .val (.int p2), .val (.int p3), .val (.int p4), .val (.int p5), .val (.int p6), .val (.ref b21), .val (.int (p2 &&& (2147483647 : Int32))), .val (.int (p4 &&& (2147483647 : Int32))), .val (.int (p5 &&& (2147483647 : Int32))), .val (.int mA), .val (.int mB), .val (.int r_48), .val (.int r_52), .val .null, .val (own_val oa), .val (own_val ob), .val (own_val oe), .val (own_val (M2 (own_key r_48 r_52))), .val (own_val (M2 (own_key r_48 r_52))), .val (own_val oa), .unset] []) t) => q140 t (by
          show Go p e below T132 (mkF m 263 #[.val (.int p1), .val (.int p2), .val (.int p3), .val (.int p4), .val (.int p5), .val (.int p6), .val (.ref b21), .val (.int (p2 &&& (2147483647 : Int32))), .val (.int (p4 &&& (2147483647 : Int32))), .val (.int (p5 &&& (2147483647 : Int32))), .val (.int mA), .val (.int mB), .val (.int r_48), .val (.int r_52), .val .null, .val (own_val oa), .val (own_val ob), .val (own_val oe), .val (own_val (M2 (own_key r_48 r_52))), .val (own_val (M2 (own_key r_48 r_52))), .val .null, .unset] [(.int mA)]) _
          refine XS.ifNo X132.here hx rfl (hb hby at_263) rfl ((if0 _ _).trans (feq hc141).1) ?_
          show Go p e below T132 (mkF m 266 #[.val (.int p1), .val (.int p2), .val (.int p3), .val (.int p4), .val (.int p5), .val (.int p6), .val (.ref b21), .val (.int (p2 &&& (2147483647 : Int32))), .val (.int (p4 &&& (2147483647 : Int32))), .val (.int (p5 &&& (2147483647 : Int32))), .val (.int mA), .val (.int mB), .val (.int r_48), .val (.int r_52), .val .null, .val (own_val oa), .val (own_val ob), .val (own_val oe), .val (own_val (M2 (own_key r_48 r_52))), .val (own_val (M2 (own_key r_48 r_52))), .val .null, .unset] []) _
          refine XS.aload X132.here hx rfl (hb hby at_266) rfl (own_val_ref _) ?_
          show Go p e below T132 (mkF m 268 #[.val (.int p1), .val (.int p2), .val (.int p3), .val (.int p4), .val (.int p5), .val (.int p6), .val (.ref b21), .val (.int (p2 &&& (2147483647 : Int32))), .val (.int (p4 &&& (2147483647 : Int32))), .val (.int (p5 &&& (2147483647 : Int32))), .val (.int mA), .val (.int mB), .val (.int r_48), .val (.int r_52), .val .null, .val (own_val oa), .val (own_val ob), .val (own_val oe), .val (own_val (M2 (own_key r_48 r_52))), .val (own_val (M2 (own_key r_48 r_52))), .val .null, .unset] [(own_val oa)]) _
          refine XS.astoreS X132.here hx rfl (hb hby at_268) rfl (own_val_ref _) (XT.cat1 (own_val_ref _)) rfl (Or.inr ⟨_, rfl, rfl⟩) ?_
          exact kt)
        exact ⟨T132, _, oa, X132, eq132, N134, (((own_exp mp62_0 mp75_0 mp37_0 mp42_0 (s := p1) (f := (p2 &&& (2147483647 : Int32))) (own_nn p2) (own_nn p2) (own_nn p4)).trans ((if_neg (fun q => q.1 hc139)).trans (if_pos ⟨hc141, rfl, rfl⟩))).symm), q143⟩
    · have q144 := fun t (kt : Go p e below T132 (mkF m 244 #[.val (.int p1), .val (.int p2), .val (.int p3), .val (.int p4), .val (.int p5), .val (.int p6), .val (.ref b21), .val (.int (p2 &&& (2147483647 : Int32))), .val (.int (p4 &&& (2147483647 : Int32))), .val (.int (p5 &&& (2147483647 : Int32))), .val (.int mA), .val (.int mB), .val (.int r_48), .val (.int r_52), .val .null, .val (own_val oa), .val (own_val ob), .val (own_val oe), .val (own_val (M2 (own_key r_48 r_52))), .val (own_val (M2 (own_key r_48 r_52))), .val .null, .unset] [(.int p3), (.int p1)]) t) => q138 t (by
        show Go p e below T132 (mkF m 239 #[.val (.int p1), .val (.int p2), .val (.int p3), .val (.int p4), .val (.int p5), .val (.int p6), .val (.ref b21), .val (.int (p2 &&& (2147483647 : Int32))), .val (.int (p4 &&& (2147483647 : Int32))), .val (.int (p5 &&& (2147483647 : Int32))), .val (.int mA), .val (.int mB), .val (.int r_48), .val (.int r_52), .val .null, .val (own_val oa), .val (own_val ob), .val (own_val oe), .val (own_val (M2 (own_key r_48 r_52))), .val (own_val (M2 (own_key r_48 r_52))), .val .null, .unset] [(.int mB)]) _
        refine XS.ifNo X132.here hx rfl (hb hby at_239) rfl ((if0 _ _).trans (feq hc139).1) ?_
        show Go p e below T132 (mkF m 242 #[.val (.int p1), .val (.int p2), .val (.int p3), .val (.int p4), .val (.int p5), .val (.int p6), .val (.ref b21), .val (.int (p2 &&& (2147483647 : Int32))), .val (.int (p4 &&& (2147483647 : Int32))), .val (.int (p5 &&& (2147483647 : Int32))), .val (.int mA), .val (.int mB), .val (.int r_48), .val (.int r_52), .val .null, .val (own_val oa), .val (own_val ob), .val (own_val oe), .val (own_val (M2 (own_key r_48 r_52))), .val (own_val (M2 (own_key r_48 r_52))), .val .null, .unset] []) _
        refine XS.iloadN X132.here hx rfl (hb hby at_242) rfl ?_
        show Go p e below T132 (mkF m 243 #[.val (.int p1), .val (.int p2), .val (.int p3), .val (.int p4), .val (.int p5), .val (.int p6), .val (.ref b21), .val (.int (p2 &&& (2147483647 : Int32))), .val (.int (p4 &&& (2147483647 : Int32))), .val (.int (p5 &&& (2147483647 : Int32))), .val (.int mA), .val (.int mB), .val (.int r_48), .val (.int r_52), .val .null, .val (own_val oa), .val (own_val ob), .val (own_val oe), .val (own_val (M2 (own_key r_48 r_52))), .val (own_val (M2 (own_key r_48 r_52))), .val .null, .unset] [(.int p1)]) _
        refine XS.iloadN X132.here hx rfl (hb hby at_243) rfl ?_
        exact kt)
      by_cases hc145 : p1 = p3
      · have q146 := fun t (kt : Go p e below T132 (mkF m 251 #[.val (.int p1), .val (.int p2), .val (.int p3), .val (.int p4), .val (.int p5), .val (.int p6), .val (.ref b21), .val (.int (p2 &&& (2147483647 : Int32))), .val (.int (p4 &&& (2147483647 : Int32))), .val (.int (p5 &&& (2147483647 : Int32))), .val (.int mA), .val (.int mB), .val (.int r_48), .val (.int r_52), .val .null, .val (own_val oa), .val (own_val ob), .val (own_val oe), .val (own_val (M2 (own_key r_48 r_52))), .val (own_val (M2 (own_key r_48 r_52))), .val .null, .unset] [(.int (p4 &&& (2147483647 : Int32))), (.int (p2 &&& (2147483647 : Int32)))]) t) => q144 t (by
          show Go p e below T132 (mkF m 244 #[.val (.int p1), .val (.int p2), .val (.int p3), .val (.int p4), .val (.int p5), .val (.int p6), .val (.ref b21), .val (.int (p2 &&& (2147483647 : Int32))), .val (.int (p4 &&& (2147483647 : Int32))), .val (.int (p5 &&& (2147483647 : Int32))), .val (.int mA), .val (.int mB), .val (.int r_48), .val (.int r_52), .val .null, .val (own_val oa), .val (own_val ob), .val (own_val oe), .val (own_val (M2 (own_key r_48 r_52))), .val (own_val (M2 (own_key r_48 r_52))), .val .null, .unset] [(.int p3), (.int p1)]) _
          refine XS.icmpNo X132.here hx rfl (hb hby at_244) rfl (teq hc145).2 ?_
          show Go p e below T132 (mkF m 247 #[.val (.int p1), .val (.int p2), .val (.int p3), .val (.int p4), .val (.int p5), .val (.int p6), .val (.ref b21), .val (.int (p2 &&& (2147483647 : Int32))), .val (.int (p4 &&& (2147483647 : Int32))), .val (.int (p5 &&& (2147483647 : Int32))), .val (.int mA), .val (.int mB), .val (.int r_48), .val (.int r_52), .val .null, .val (own_val oa), .val (own_val ob), .val (own_val oe), .val (own_val (M2 (own_key r_48 r_52))), .val (own_val (M2 (own_key r_48 r_52))), .val .null, .unset] []) _
          refine XS.iload X132.here hx rfl (hb hby at_247) rfl ?_
          show Go p e below T132 (mkF m 249 #[.val (.int p1), .val (.int p2), .val (.int p3), .val (.int p4), .val (.int p5), .val (.int p6), .val (.ref b21), .val (.int (p2 &&& (2147483647 : Int32))), .val (.int (p4 &&& (2147483647 : Int32))), .val (.int (p5 &&& (2147483647 : Int32))), .val (.int mA), .val (.int mB), .val (.int r_48), .val (.int r_52), .val .null, .val (own_val oa), .val (own_val ob), .val (own_val oe), .val (own_val (M2 (own_key r_48 r_52))), .val (own_val (M2 (own_key r_48 r_52))), .val .null, .unset] [(.int (p2 &&& (2147483647 : Int32)))]) _
          refine XS.iload X132.here hx rfl (hb hby at_249) rfl ?_
          exact kt)
        by_cases hc147 : (p2 &&& (2147483647 : Int32)) = (p4 &&& (2147483647 : Int32))
        · have q148 := fun t (kt : Go p e below T132 (mkF m 270 #[.val (.int p1), .val (.int p2), .val (.int p3), .val (.int p4), .val (.int p5), .val (.int p6), .val (.ref b21), .val (.int (p2 &&& (2147483647 : Int32))), .val (.int (p4 &&& (2147483647 : Int32))), .val (.int (p5 &&& (2147483647 : Int32))), .val (.int mA), .val (.int mB), .val (.int r_48), .val (.int r_52), .val .null, .val (own_val oa), .val (own_val ob), .val (own_val oe), .val (own_val (M2 (own_key r_48 r_52))), .val (own_val (M2 (own_key r_48 r_52))), .val (own_val ob), .unset] []) t) => q146 t (by
            show Go p e below T132 (mkF m 251 #[.val (.int p1), .val (.int p2), .val (.int p3), .val (.int p4), .val (.int p5), .val (.int p6), .val (.ref b21), .val (.int (p2 &&& (2147483647 : Int32))), .val (.int (p4 &&& (2147483647 : Int32))), .val (.int (p5 &&& (2147483647 : Int32))), .val (.int mA), .val (.int mB), .val (.int r_48), .val (.int r_52), .val .null, .val (own_val oa), .val (own_val ob), .val (own_val oe), .val (own_val (M2 (own_key r_48 r_52))), .val (own_val (M2 (own_key r_48 r_52))), .val .null, .unset] [(.int (p4 &&& (2147483647 : Int32))), (.int (p2 &&& (2147483647 : Int32)))]) _
            refine XS.icmpNo X132.here hx rfl (hb hby at_251) rfl (teq hc147).2 ?_
            show Go p e below T132 (mkF m 254 #[.val (.int p1), .val (.int p2), .val (.int p3), .val (.int p4), .val (.int p5), .val (.int p6), .val (.ref b21), .val (.int (p2 &&& (2147483647 : Int32))), .val (.int (p4 &&& (2147483647 : Int32))), .val (.int (p5 &&& (2147483647 : Int32))), .val (.int mA), .val (.int mB), .val (.int r_48), .val (.int r_52), .val .null, .val (own_val oa), .val (own_val ob), .val (own_val oe), .val (own_val (M2 (own_key r_48 r_52))), .val (own_val (M2 (own_key r_48 r_52))), .val .null, .unset] []) _
            refine XS.aload X132.here hx rfl (hb hby at_254) rfl (own_val_ref _) ?_
            show Go p e below T132 (mkF m 256 #[.val (.int p1), .val (.int p2), .val (.int p3), .val (.int p4), .val (.int p5), .val (.int p6), .val (.ref b21), .val (.int (p2 &&& (2147483647 : Int32))), .val (.int (p4 &&& (2147483647 : Int32))), .val (.int (p5 &&& (2147483647 : Int32))), .val (.int mA), .val (.int mB), .val (.int r_48), .val (.int r_52), .val .null, .val (own_val oa), .val (own_val ob), .val (own_val oe), .val (own_val (M2 (own_key r_48 r_52))), .val (own_val (M2 (own_key r_48 r_52))), .val .null, .unset] [(own_val ob)]) _
            refine XS.astoreS X132.here hx rfl (hb hby at_256) rfl (own_val_ref _) (XT.cat1 (own_val_ref _)) rfl (Or.inr ⟨_, rfl, rfl⟩) ?_
            show Go p e below T132 (mkF m 258 #[.val (.int p1), .val (.int p2), .val (.int p3), .val (.int p4), .val (.int p5), .val (.int p6), .val (.ref b21), .val (.int (p2 &&& (2147483647 : Int32))), .val (.int (p4 &&& (2147483647 : Int32))), .val (.int (p5 &&& (2147483647 : Int32))), .val (.int mA), .val (.int mB), .val (.int r_48), .val (.int r_52), .val .null, .val (own_val oa), .val (own_val ob), .val (own_val oe), .val (own_val (M2 (own_key r_48 r_52))), .val (own_val (M2 (own_key r_48 r_52))), .val (own_val ob), .unset] []) _
            refine XS.goto X132.here hx rfl (pc0 := 258) (pc' := 270) rfl (hb hby at_258) (by decide) (by decide) ?_
            exact kt)
          exact ⟨T132, _, ob, X132, eq132, N134, (((own_exp mp62_0 mp75_0 mp37_0 mp42_0 (s := p1) (f := (p2 &&& (2147483647 : Int32))) (own_nn p2) (own_nn p2) (own_nn p4)).trans (if_pos ⟨hc139, hc145, hc147⟩)).symm), q148⟩
        · have q149 := fun t (kt : Go p e below T132 (mkF m 263 #[.val (.int p1), .val (.int p2), .val (.int p3), .val (.int p4), .val (.int p5), .val (.int p6), .val (.ref b21), .val (.int (p2 &&& (2147483647 : Int32))), .val (.int (p4 &&& (2147483647 : Int32))), .val (.int (p5 &&& (2147483647 : Int32))), .val (.int mA), .val (.int mB), .val (.int r_48), .val (.int r_52), .val .null, .val (own_val oa), .val (own_val ob), .val (own_val oe), .val (own_val (M2 (own_key r_48 r_52))), .val (own_val (M2 (own_key r_48 r_52))), .val .null, .unset] [(.int mA)]) t) => q146 t (by
            show Go p e below T132 (mkF m 251 #[.val (.int p1), .val (.int p2), .val (.int p3), .val (.int p4), .val (.int p5), .val (.int p6), .val (.ref b21), .val (.int (p2 &&& (2147483647 : Int32))), .val (.int (p4 &&& (2147483647 : Int32))), .val (.int (p5 &&& (2147483647 : Int32))), .val (.int mA), .val (.int mB), .val (.int r_48), .val (.int r_52), .val .null, .val (own_val oa), .val (own_val ob), .val (own_val oe), .val (own_val (M2 (own_key r_48 r_52))), .val (own_val (M2 (own_key r_48 r_52))), .val .null, .unset] [(.int (p4 &&& (2147483647 : Int32))), (.int (p2 &&& (2147483647 : Int32)))]) _
            refine XS.icmpYes X132.here hx rfl (pc0 := 251) (pc' := 261) rfl (hb hby at_251) rfl (feq hc147).2 (by decide) (by decide) ?_
            show Go p e below T132 (mkF m 261 #[.val (.int p1), .val (.int p2), .val (.int p3), .val (.int p4), .val (.int p5), .val (.int p6), .val (.ref b21), .val (.int (p2 &&& (2147483647 : Int32))), .val (.int (p4 &&& (2147483647 : Int32))), .val (.int (p5 &&& (2147483647 : Int32))), .val (.int mA), .val (.int mB), .val (.int r_48), .val (.int r_52), .val .null, .val (own_val oa), .val (own_val ob), .val (own_val oe), .val (own_val (M2 (own_key r_48 r_52))), .val (own_val (M2 (own_key r_48 r_52))), .val .null, .unset] []) _
            refine XS.iload X132.here hx rfl (hb hby at_261) rfl ?_
            exact kt)
          by_cases hc150 : mA = (0 : Int32)
          · have q151 := fun t (kt : Go p e below T132 (mkF m 270 #[.val (.int p1), .val (.int p2), .val (.int p3), .val (.int p4), .val (.int p5), .val (.int p6), .val (.ref b21), .val (.int (p2 &&& (2147483647 : Int32))), .val (.int (p4 &&& (2147483647 : Int32))), .val (.int (p5 &&& (2147483647 : Int32))), .val (.int mA), .val (.int mB), .val (.int r_48), .val (.int r_52), .val .null, .val (own_val oa), .val (own_val ob), .val (own_val oe), .val (own_val (M2 (own_key r_48 r_52))), .val (own_val (M2 (own_key r_48 r_52))), .val .null, .unset] []) t) => q149 t (by
              show Go p e below T132 (mkF m 263 #[.val (.int p1), .val (.int p2), .val (.int p3), .val (.int p4), .val (.int p5), .val (.int p6), .val (.ref b21), .val (.int (p2 &&& (2147483647 : Int32))), .val (.int (p4 &&& (2147483647 : Int32))), .val (.int (p5 &&& (2147483647 : Int32))), .val (.int mA), .val (.int mB), .val (.int r_48), .val (.int r_52), .val .null, .val (own_val oa), .val (own_val ob), .val (own_val oe), .val (own_val (M2 (own_key r_48 r_52))), .val (own_val (M2 (own_key r_48 r_52))), .val .null, .unset] [(.int mA)]) _
              refine XS.ifYes X132.here hx rfl (pc0 := 263) (pc' := 270) rfl (hb hby at_263) rfl ((if0 _ _).trans (teq hc150).1) (by decide) (by decide) ?_
              exact kt)
            exact ⟨T132, _, none, X132, eq132, N134, (((own_exp mp62_0 mp75_0 mp37_0 mp42_0 (s := p1) (f := (p2 &&& (2147483647 : Int32))) (own_nn p2) (own_nn p2) (own_nn p4)).trans ((if_neg (fun q => hc147 q.2.2)).trans (if_neg (fun q => q.1 hc150)))).symm), q151⟩
          · have q152 := fun t (kt : Go p e below T132 (mkF m 270 #[.val (.int p1), .val (.int p2), .val (.int p3), .val (.int p4), .val (.int p5), .val (.int p6), .val (.ref b21), .val (.int (p2 &&& (2147483647 : Int32))), .val (.int (p4 &&& (2147483647 : Int32))), .val (.int (p5 &&& (2147483647 : Int32))), .val (.int mA), .val (.int mB), .val (.int r_48), .val (.int r_52), .val .null, .val (own_val oa), .val (own_val ob), .val (own_val oe), .val (own_val (M2 (own_key r_48 r_52))), .val (own_val (M2 (own_key r_48 r_52))), .val (own_val oa), .unset] []) t) => q149 t (by
              show Go p e below T132 (mkF m 263 #[.val (.int p1), .val (.int p2), .val (.int p3), .val (.int p4), .val (.int p5), .val (.int p6), .val (.ref b21), .val (.int (p2 &&& (2147483647 : Int32))), .val (.int (p4 &&& (2147483647 : Int32))), .val (.int (p5 &&& (2147483647 : Int32))), .val (.int mA), .val (.int mB), .val (.int r_48), .val (.int r_52), .val .null, .val (own_val oa), .val (own_val ob), .val (own_val oe), .val (own_val (M2 (own_key r_48 r_52))), .val (own_val (M2 (own_key r_48 r_52))), .val .null, .unset] [(.int mA)]) _
              refine XS.ifNo X132.here hx rfl (hb hby at_263) rfl ((if0 _ _).trans (feq hc150).1) ?_
              show Go p e below T132 (mkF m 266 #[.val (.int p1), .val (.int p2), .val (.int p3), .val (.int p4), .val (.int p5), .val (.int p6), .val (.ref b21), .val (.int (p2 &&& (2147483647 : Int32))), .val (.int (p4 &&& (2147483647 : Int32))), .val (.int (p5 &&& (2147483647 : Int32))), .val (.int mA), .val (.int mB), .val (.int r_48), .val (.int r_52), .val .null, .val (own_val oa), .val (own_val ob), .val (own_val oe), .val (own_val (M2 (own_key r_48 r_52))), .val (own_val (M2 (own_key r_48 r_52))), .val .null, .unset] []) _
              refine XS.aload X132.here hx rfl (hb hby at_266) rfl (own_val_ref _) ?_
              show Go p e below T132 (mkF m 268 #[.val (.int p1), .val (.int p2), .val (.int p3), .val (.int p4), .val (.int p5), .val (.int p6), .val (.ref b21), .val (.int (p2 &&& (2147483647 : Int32))), .val (.int (p4 &&& (2147483647 : Int32))), .val (.int (p5 &&& (2147483647 : Int32))), .val (.int mA), .val (.int mB), .val (.int r_48), .val (.int r_52), .val .null, .val (own_val oa), .val (own_val ob), .val (own_val oe), .val (own_val (M2 (own_key r_48 r_52))), .val (own_val (M2 (own_key r_48 r_52))), .val .null, .unset] [(own_val oa)]) _
              refine XS.astoreS X132.here hx rfl (hb hby at_268) rfl (own_val_ref _) (XT.cat1 (own_val_ref _)) rfl (Or.inr ⟨_, rfl, rfl⟩) ?_
              exact kt)
            exact ⟨T132, _, oa, X132, eq132, N134, (((own_exp mp62_0 mp75_0 mp37_0 mp42_0 (s := p1) (f := (p2 &&& (2147483647 : Int32))) (own_nn p2) (own_nn p2) (own_nn p4)).trans ((if_neg (fun q => hc147 q.2.2)).trans (if_pos ⟨hc150, rfl, rfl⟩))).symm), q152⟩
      · have q153 := fun t (kt : Go p e below T132 (mkF m 263 #[.val (.int p1), .val (.int p2), .val (.int p3), .val (.int p4), .val (.int p5), .val (.int p6), .val (.ref b21), .val (.int (p2 &&& (2147483647 : Int32))), .val (.int (p4 &&& (2147483647 : Int32))), .val (.int (p5 &&& (2147483647 : Int32))), .val (.int mA), .val (.int mB), .val (.int r_48), .val (.int r_52), .val .null, .val (own_val oa), .val (own_val ob), .val (own_val oe), .val (own_val (M2 (own_key r_48 r_52))), .val (own_val (M2 (own_key r_48 r_52))), .val .null, .unset] [(.int mA)]) t) => q144 t (by
          show Go p e below T132 (mkF m 244 #[.val (.int p1), .val (.int p2), .val (.int p3), .val (.int p4), .val (.int p5), .val (.int p6), .val (.ref b21), .val (.int (p2 &&& (2147483647 : Int32))), .val (.int (p4 &&& (2147483647 : Int32))), .val (.int (p5 &&& (2147483647 : Int32))), .val (.int mA), .val (.int mB), .val (.int r_48), .val (.int r_52), .val .null, .val (own_val oa), .val (own_val ob), .val (own_val oe), .val (own_val (M2 (own_key r_48 r_52))), .val (own_val (M2 (own_key r_48 r_52))), .val .null, .unset] [(.int p3), (.int p1)]) _
          refine XS.icmpYes X132.here hx rfl (pc0 := 244) (pc' := 261) rfl (hb hby at_244) rfl (feq hc145).2 (by decide) (by decide) ?_
          show Go p e below T132 (mkF m 261 #[.val (.int p1), .val (.int p2), .val (.int p3), .val (.int p4), .val (.int p5), .val (.int p6), .val (.ref b21), .val (.int (p2 &&& (2147483647 : Int32))), .val (.int (p4 &&& (2147483647 : Int32))), .val (.int (p5 &&& (2147483647 : Int32))), .val (.int mA), .val (.int mB), .val (.int r_48), .val (.int r_52), .val .null, .val (own_val oa), .val (own_val ob), .val (own_val oe), .val (own_val (M2 (own_key r_48 r_52))), .val (own_val (M2 (own_key r_48 r_52))), .val .null, .unset] []) _
          refine XS.iload X132.here hx rfl (hb hby at_261) rfl ?_
          exact kt)
        by_cases hc154 : mA = (0 : Int32)
        · have q155 := fun t (kt : Go p e below T132 (mkF m 270 #[.val (.int p1), .val (.int p2), .val (.int p3), .val (.int p4), .val (.int p5), .val (.int p6), .val (.ref b21), .val (.int (p2 &&& (2147483647 : Int32))), .val (.int (p4 &&& (2147483647 : Int32))), .val (.int (p5 &&& (2147483647 : Int32))), .val (.int mA), .val (.int mB), .val (.int r_48), .val (.int r_52), .val .null, .val (own_val oa), .val (own_val ob), .val (own_val oe), .val (own_val (M2 (own_key r_48 r_52))), .val (own_val (M2 (own_key r_48 r_52))), .val .null, .unset] []) t) => q153 t (by
            show Go p e below T132 (mkF m 263 #[.val (.int p1), .val (.int p2), .val (.int p3), .val (.int p4), .val (.int p5), .val (.int p6), .val (.ref b21), .val (.int (p2 &&& (2147483647 : Int32))), .val (.int (p4 &&& (2147483647 : Int32))), .val (.int (p5 &&& (2147483647 : Int32))), .val (.int mA), .val (.int mB), .val (.int r_48), .val (.int r_52), .val .null, .val (own_val oa), .val (own_val ob), .val (own_val oe), .val (own_val (M2 (own_key r_48 r_52))), .val (own_val (M2 (own_key r_48 r_52))), .val .null, .unset] [(.int mA)]) _
            refine XS.ifYes X132.here hx rfl (pc0 := 263) (pc' := 270) rfl (hb hby at_263) rfl ((if0 _ _).trans (teq hc154).1) (by decide) (by decide) ?_
            exact kt)
          exact ⟨T132, _, none, X132, eq132, N134, (((own_exp mp62_0 mp75_0 mp37_0 mp42_0 (s := p1) (f := (p2 &&& (2147483647 : Int32))) (own_nn p2) (own_nn p2) (own_nn p4)).trans ((if_neg (fun q => hc145 q.2.1)).trans (if_neg (fun q => q.1 hc154)))).symm), q155⟩
        · have q156 := fun t (kt : Go p e below T132 (mkF m 270 #[.val (.int p1), .val (.int p2), .val (.int p3), .val (.int p4), .val (.int p5), .val (.int p6), .val (.ref b21), .val (.int (p2 &&& (2147483647 : Int32))), .val (.int (p4 &&& (2147483647 : Int32))), .val (.int (p5 &&& (2147483647 : Int32))), .val (.int mA), .val (.int mB), .val (.int r_48), .val (.int r_52), .val .null, .val (own_val oa), .val (own_val ob), .val (own_val oe), .val (own_val (M2 (own_key r_48 r_52))), .val (own_val (M2 (own_key r_48 r_52))), .val (own_val oa), .unset] []) t) => q153 t (by
            show Go p e below T132 (mkF m 263 #[.val (.int p1), .val (.int p2), .val (.int p3), .val (.int p4), .val (.int p5), .val (.int p6), .val (.ref b21), .val (.int (p2 &&& (2147483647 : Int32))), .val (.int (p4 &&& (2147483647 : Int32))), .val (.int (p5 &&& (2147483647 : Int32))), .val (.int mA), .val (.int mB), .val (.int r_48), .val (.int r_52), .val .null, .val (own_val oa), .val (own_val ob), .val (own_val oe), .val (own_val (M2 (own_key r_48 r_52))), .val (own_val (M2 (own_key r_48 r_52))), .val .null, .unset] [(.int mA)]) _
            refine XS.ifNo X132.here hx rfl (hb hby at_263) rfl ((if0 _ _).trans (feq hc154).1) ?_
            show Go p e below T132 (mkF m 266 #[.val (.int p1), .val (.int p2), .val (.int p3), .val (.int p4), .val (.int p5), .val (.int p6), .val (.ref b21), .val (.int (p2 &&& (2147483647 : Int32))), .val (.int (p4 &&& (2147483647 : Int32))), .val (.int (p5 &&& (2147483647 : Int32))), .val (.int mA), .val (.int mB), .val (.int r_48), .val (.int r_52), .val .null, .val (own_val oa), .val (own_val ob), .val (own_val oe), .val (own_val (M2 (own_key r_48 r_52))), .val (own_val (M2 (own_key r_48 r_52))), .val .null, .unset] []) _
            refine XS.aload X132.here hx rfl (hb hby at_266) rfl (own_val_ref _) ?_
            show Go p e below T132 (mkF m 268 #[.val (.int p1), .val (.int p2), .val (.int p3), .val (.int p4), .val (.int p5), .val (.int p6), .val (.ref b21), .val (.int (p2 &&& (2147483647 : Int32))), .val (.int (p4 &&& (2147483647 : Int32))), .val (.int (p5 &&& (2147483647 : Int32))), .val (.int mA), .val (.int mB), .val (.int r_48), .val (.int r_52), .val .null, .val (own_val oa), .val (own_val ob), .val (own_val oe), .val (own_val (M2 (own_key r_48 r_52))), .val (own_val (M2 (own_key r_48 r_52))), .val .null, .unset] [(own_val oa)]) _
            refine XS.astoreS X132.here hx rfl (hb hby at_268) rfl (own_val_ref _) (XT.cat1 (own_val_ref _)) rfl (Or.inr ⟨_, rfl, rfl⟩) ?_
            exact kt)
          exact ⟨T132, _, oa, X132, eq132, N134, (((own_exp mp62_0 mp75_0 mp37_0 mp42_0 (s := p1) (f := (p2 &&& (2147483647 : Int32))) (own_nn p2) (own_nn p2) (own_nn p4)).trans ((if_neg (fun q => hc145 q.2.1)).trans (if_pos ⟨hc154, rfl, rfl⟩))).symm), q156⟩
  have q157 := fun t (kt : Go p e below T137 (mkF m 275 #[.val (.int p1), .val (.int p2), .val (.int p3), .val (.int p4), .val (.int p5), .val (.int p6), .val (.ref b21), .val (.int (p2 &&& (2147483647 : Int32))), .val (.int (p4 &&& (2147483647 : Int32))), .val (.int (p5 &&& (2147483647 : Int32))), .val (.int mA), .val (.int mB), .val (.int r_48), .val (.int r_52), .val .null, .val (own_val oa), .val (own_val ob), .val (own_val oe), .val (own_val (M2 (own_key r_48 r_52))), .val (own_val (M2 (own_key r_48 r_52))), .val (own_val oA), .unset] [(.int (p2 &&& (2147483647 : Int32))), (.int p1), (.ref b21)]) t) => q137 t (by
    show Go p e below T137 (mkF m 270 #[.val (.int p1), .val (.int p2), .val (.int p3), .val (.int p4), .val (.int p5), .val (.int p6), .val (.ref b21), .val (.int (p2 &&& (2147483647 : Int32))), .val (.int (p4 &&& (2147483647 : Int32))), .val (.int (p5 &&& (2147483647 : Int32))), .val (.int mA), .val (.int mB), .val (.int r_48), .val (.int r_52), .val .null, .val (own_val oa), .val (own_val ob), .val (own_val oe), .val (own_val (M2 (own_key r_48 r_52))), .val (own_val (M2 (own_key r_48 r_52))), .val (own_val oA), .unset] []) _
    refine XS.aload X137.here hx rfl (hb hby at_270) rfl rfl ?_
    show Go p e below T137 (mkF m 272 #[.val (.int p1), .val (.int p2), .val (.int p3), .val (.int p4), .val (.int p5), .val (.int p6), .val (.ref b21), .val (.int (p2 &&& (2147483647 : Int32))), .val (.int (p4 &&& (2147483647 : Int32))), .val (.int (p5 &&& (2147483647 : Int32))), .val (.int mA), .val (.int mB), .val (.int r_48), .val (.int r_52), .val .null, .val (own_val oa), .val (own_val ob), .val (own_val oe), .val (own_val (M2 (own_key r_48 r_52))), .val (own_val (M2 (own_key r_48 r_52))), .val (own_val oA), .unset] [(.ref b21)]) _
    refine XS.iloadN X137.here hx rfl (hb hby at_272) rfl ?_
    show Go p e below T137 (mkF m 273 #[.val (.int p1), .val (.int p2), .val (.int p3), .val (.int p4), .val (.int p5), .val (.int p6), .val (.ref b21), .val (.int (p2 &&& (2147483647 : Int32))), .val (.int (p4 &&& (2147483647 : Int32))), .val (.int (p5 &&& (2147483647 : Int32))), .val (.int mA), .val (.int mB), .val (.int r_48), .val (.int r_52), .val .null, .val (own_val oa), .val (own_val ob), .val (own_val oe), .val (own_val (M2 (own_key r_48 r_52))), .val (own_val (M2 (own_key r_48 r_52))), .val (own_val oA), .unset] [(.int p1), (.ref b21)]) _
    refine XS.iload X137.here hx rfl (hb hby at_273) rfl ?_
    exact kt)
  obtain ⟨cq159, kq159, q159a, q159b, q159c⟩ := isOf hZ e137 mf75_0
  obtain ⟨_, _, ⟨T158, L158, k158, n158⟩, -, X158, ⟨Lc158, hQ158, l158, y158, z158⟩, st158⟩ := X137.virtualBack hx (y := (⟨"com/example/pointward/pointward/pointsto/ConstraintGraph", "existingField", "(II)Lcom/example/pointward/pointward/pointsto/ConstraintGraph$Node;"⟩ : MethodName)) (z := (⟨"com/example/pointward/pointward/pointsto/ConstraintGraph", "existingField", "(II)Lcom/example/pointward/pointward/pointsto/ConstraintGraph$Node;"⟩ : MethodName)) hown (mvT hZ (own_w hw 50 rfl)) (mvT hZ (own_w hw 51 rfl)) (notFace_of_selects (args := #[]) (mvT hZ (own_w hw 53 rfl))) (mvT hZ (own_w hw 53 rfl)) (mvT hZ (own_w hw 52 rfl)) (by decide) (backOf (W := 0) (rm7 l Z a0 hw [] cx b21 p1 (p2 &&& (2147483647 : Int32)) tl_26 ka_26 va_26 M2 n2 h75 n0 O75 mf75_1 mf75_3 (by omega : n2 ≤ 3)) hZ (own_w hw 54 rfl) (own_w hw 2 rfl) (by decide) (by decide)) q159a q159c (g := (mkF m 275 #[.val (.int p1), .val (.int p2), .val (.int p3), .val (.int p4), .val (.int p5), .val (.int p6), .val (.ref b21), .val (.int (p2 &&& (2147483647 : Int32))), .val (.int (p4 &&& (2147483647 : Int32))), .val (.int (p5 &&& (2147483647 : Int32))), .val (.int mA), .val (.int mB), .val (.int r_48), .val (.int r_52), .val .null, .val (own_val oa), .val (own_val ob), .val (own_val oe), .val (own_val (M2 (own_key r_48 r_52))), .val (own_val (M2 (own_key r_48 r_52))), .val (own_val oA), .unset] [(.int (p2 &&& (2147483647 : Int32))), (.int p1), (.ref b21)])) rfl (by rw [hml]; rfl) (Steps.refl _) (argsL := [(.int p1), (.int (p2 &&& (2147483647 : Int32)))]) (rest := []) (lenOf pd_8 rfl) rfl (by show 2 * 0 + _ ≤ _; exact Nat.le_of_eq rfl) (hb hby at_275) (fun _ _ => ⟨rfl, e137, (by decide : 17 + 0 ≤ _), (by decide : 120 + 0 ≤ _)⟩)
  dsimp only [Pt.U, Pt.locs, Pt.cells, Pt.slots] at X158 l158 y158 z158 st158 hQ158
  subst l158 y158 z158
  obtain ⟨rfl, Nq158, eq158⟩ := hQ158
  have N160 := Fr.app N137 Nq158
  have q161 := fun t (kt : Go p e below T158 (mkF m 278 #[.val (.int p1), .val (.int p2), .val (.int p3), .val (.int p4), .val (.int p5), .val (.int p6), .val (.ref b21), .val (.int (p2 &&& (2147483647 : Int32))), .val (.int (p4 &&& (2147483647 : Int32))), .val (.int (p5 &&& (2147483647 : Int32))), .val (.int mA), .val (.int mB), .val (.int r_48), .val (.int r_52), .val .null, .val (own_val oa), .val (own_val ob), .val (own_val oe), .val (own_val (M2 (own_key r_48 r_52))), .val (own_val (M2 (own_key r_48 r_52))), .val (own_val oA), .unset] [(own_val (M2 (own_key p1 (p2 &&& (2147483647 : Int32)))))]) t) => q157 t (st158.trans kt)
  have q162 := fun t (kt : Go p e below T158 (mkF m 291 #[.val (.int p1), .val (.int p2), .val (.int p3), .val (.int p4), .val (.int p5), .val (.int p6), .val (.ref b21), .val (.int (p2 &&& (2147483647 : Int32))), .val (.int (p4 &&& (2147483647 : Int32))), .val (.int (p5 &&& (2147483647 : Int32))), .val (.int mA), .val (.int mB), .val (.int r_48), .val (.int r_52), .val .null, .val (own_val oa), .val (own_val ob), .val (own_val oe), .val (own_val (M2 (own_key r_48 r_52))), .val (own_val (M2 (own_key r_48 r_52))), .val (own_val oA), .unset] [(.int r_52), (.int r_48), (.ref b21)]) t) => q161 t (by
    show Go p e below T158 (mkF m 278 #[.val (.int p1), .val (.int p2), .val (.int p3), .val (.int p4), .val (.int p5), .val (.int p6), .val (.ref b21), .val (.int (p2 &&& (2147483647 : Int32))), .val (.int (p4 &&& (2147483647 : Int32))), .val (.int (p5 &&& (2147483647 : Int32))), .val (.int mA), .val (.int mB), .val (.int r_48), .val (.int r_52), .val .null, .val (own_val oa), .val (own_val ob), .val (own_val oe), .val (own_val (M2 (own_key r_48 r_52))), .val (own_val (M2 (own_key r_48 r_52))), .val (own_val oA), .unset] [(own_val (M2 (own_key p1 (p2 &&& (2147483647 : Int32)))))]) _
    refine XS.aload X158.here hx rfl (hb hby at_278) rfl (own_val_ref _) ?_
    show Go p e below T158 (mkF m 280 #[.val (.int p1), .val (.int p2), .val (.int p3), .val (.int p4), .val (.int p5), .val (.int p6), .val (.ref b21), .val (.int (p2 &&& (2147483647 : Int32))), .val (.int (p4 &&& (2147483647 : Int32))), .val (.int (p5 &&& (2147483647 : Int32))), .val (.int mA), .val (.int mB), .val (.int r_48), .val (.int r_52), .val .null, .val (own_val oa), .val (own_val ob), .val (own_val oe), .val (own_val (M2 (own_key r_48 r_52))), .val (own_val (M2 (own_key r_48 r_52))), .val (own_val oA), .unset] [(own_val oA), (own_val (M2 (own_key p1 (p2 &&& (2147483647 : Int32)))))]) _
    refine Jvm.RoadKit.acmp (g := (mkF m 280 #[.val (.int p1), .val (.int p2), .val (.int p3), .val (.int p4), .val (.int p5), .val (.int p6), .val (.ref b21), .val (.int (p2 &&& (2147483647 : Int32))), .val (.int (p4 &&& (2147483647 : Int32))), .val (.int (p5 &&& (2147483647 : Int32))), .val (.int mA), .val (.int mB), .val (.int r_48), .val (.int r_52), .val .null, .val (own_val oa), .val (own_val ob), .val (own_val oe), .val (own_val (M2 (own_key r_48 r_52))), .val (own_val (M2 (own_key r_48 r_52))), .val (own_val oA), .unset] [(own_val oA), (own_val (M2 (own_key p1 (p2 &&& (2147483647 : Int32)))))])) X158 hx rfl (own_val_ref _) (own_val_ref _) (pc0 := 280) (pc' := 285) (same := true) rfl (hb hby at_280) rfl (decide_eq_true (congrArg own_val mp137_0.symm)) (by decide) (by decide) ?_
    show Go p e below T158 (mkF m 285 #[.val (.int p1), .val (.int p2), .val (.int p3), .val (.int p4), .val (.int p5), .val (.int p6), .val (.ref b21), .val (.int (p2 &&& (2147483647 : Int32))), .val (.int (p4 &&& (2147483647 : Int32))), .val (.int (p5 &&& (2147483647 : Int32))), .val (.int mA), .val (.int mB), .val (.int r_48), .val (.int r_52), .val .null, .val (own_val oa), .val (own_val ob), .val (own_val oe), .val (own_val (M2 (own_key r_48 r_52))), .val (own_val (M2 (own_key r_48 r_52))), .val (own_val oA), .unset] []) _
    refine XS.aload X158.here hx rfl (hb hby at_285) rfl rfl ?_
    show Go p e below T158 (mkF m 287 #[.val (.int p1), .val (.int p2), .val (.int p3), .val (.int p4), .val (.int p5), .val (.int p6), .val (.ref b21), .val (.int (p2 &&& (2147483647 : Int32))), .val (.int (p4 &&& (2147483647 : Int32))), .val (.int (p5 &&& (2147483647 : Int32))), .val (.int mA), .val (.int mB), .val (.int r_48), .val (.int r_52), .val .null, .val (own_val oa), .val (own_val ob), .val (own_val oe), .val (own_val (M2 (own_key r_48 r_52))), .val (own_val (M2 (own_key r_48 r_52))), .val (own_val oA), .unset] [(.ref b21)]) _
    refine XS.iload X158.here hx rfl (hb hby at_287) rfl ?_
    show Go p e below T158 (mkF m 289 #[.val (.int p1), .val (.int p2), .val (.int p3), .val (.int p4), .val (.int p5), .val (.int p6), .val (.ref b21), .val (.int (p2 &&& (2147483647 : Int32))), .val (.int (p4 &&& (2147483647 : Int32))), .val (.int (p5 &&& (2147483647 : Int32))), .val (.int mA), .val (.int mB), .val (.int r_48), .val (.int r_52), .val .null, .val (own_val oa), .val (own_val ob), .val (own_val oe), .val (own_val (M2 (own_key r_48 r_52))), .val (own_val (M2 (own_key r_48 r_52))), .val (own_val oA), .unset] [(.int r_48), (.ref b21)]) _
    refine XS.iload X158.here hx rfl (hb hby at_289) rfl ?_
    exact kt)
  obtain ⟨cq164, kq164, q164a, q164b, q164c⟩ := isOf hZ eq158 mf75_0
  obtain ⟨_, _, ⟨T163, L163, k163, n163⟩, -, X163, ⟨Lc163, hQ163, l163, y163, z163⟩, st163⟩ := X158.virtualBack hx (y := (⟨"com/example/pointward/pointward/pointsto/ConstraintGraph", "field", "(II)Lcom/example/pointward/pointward/pointsto/ConstraintGraph$Node;"⟩ : MethodName)) (z := (⟨"com/example/pointward/pointward/pointsto/ConstraintGraph", "field", "(II)Lcom/example/pointward/pointward/pointsto/ConstraintGraph$Node;"⟩ : MethodName)) hown (mvT hZ (own_w hw 64 rfl)) (mvT hZ (own_w hw 65 rfl)) (notFace_of_selects (args := #[]) (mvT hZ (own_w hw 67 rfl))) (mvT hZ (own_w hw 67 rfl)) (mvT hZ (own_w hw 66 rfl)) (by decide) (backOf (W := 0) (rm10 l Z a0 hw [] cx b21 r_48 r_52 tl_26 ka_26 va_26 M2 n2 z2 h75 n0 O75 mf75_0 mf75_1 mf75_2 mf75_3 gg22 gg29 gg30 gg31 mp75_3 ne33 ne34 ne35) hZ (own_w hw 68 rfl) (own_w hw 2 rfl) (by decide) (by decide)) q164a q164c (g := (mkF m 291 #[.val (.int p1), .val (.int p2), .val (.int p3), .val (.int p4), .val (.int p5), .val (.int p6), .val (.ref b21), .val (.int (p2 &&& (2147483647 : Int32))), .val (.int (p4 &&& (2147483647 : Int32))), .val (.int (p5 &&& (2147483647 : Int32))), .val (.int mA), .val (.int mB), .val (.int r_48), .val (.int r_52), .val .null, .val (own_val oa), .val (own_val ob), .val (own_val oe), .val (own_val (M2 (own_key r_48 r_52))), .val (own_val (M2 (own_key r_48 r_52))), .val (own_val oA), .unset] [(.int r_52), (.int r_48), (.ref b21)])) rfl (by rw [hml]; rfl) (Steps.refl _) (argsL := [(.int r_48), (.int r_52)]) (rest := []) (lenOf pd_8 rfl) rfl (by show 2 * 0 + _ ≤ _; exact Nat.le_of_eq rfl) (hb hby at_291) (fun _ _ => ⟨rfl, eq158, (by decide : 17 + 4 ≤ _), (by decide : 120 + 13 ≤ _)⟩)
  dsimp only [Pt.U, Pt.locs, Pt.cells, Pt.slots] at X163 l163 y163 z163 st163 hQ163
  subst l163 y163 z163
  obtain ⟨b_163, M'_163, n'_163, z'_163, rfl, Nq163, Kq163, fq163_0, fq163_1, fq163_2, fq163_3, pq163_0⟩ := hQ163
  have N165 := Fr.app N160 Nq163
  have q166 := fun t (kt : Go p e below T163 (mkF m 294 #[.val (.int p1), .val (.int p2), .val (.int p3), .val (.int p4), .val (.int p5), .val (.int p6), .val (.ref b21), .val (.int (p2 &&& (2147483647 : Int32))), .val (.int (p4 &&& (2147483647 : Int32))), .val (.int (p5 &&& (2147483647 : Int32))), .val (.int mA), .val (.int mB), .val (.int r_48), .val (.int r_52), .val .null, .val (own_val oa), .val (own_val ob), .val (own_val oe), .val (own_val (M2 (own_key r_48 r_52))), .val (own_val (M2 (own_key r_48 r_52))), .val (own_val oA), .unset] [(.ref b_163)]) t) => q162 t (st163.trans kt)
  have O167 : Old Z n0 T163.heap := O75.keep Kq163 (allS gg22 (allS gg29 (allS gg30 (allS gg31 all0))))
  have q168 := fun t (kt : Go p e below T163 (mkF m 298 #[.val (.int p1), .val (.int p2), .val (.int p3), .val (.int p4), .val (.int p5), .val (.int p6), .val (.ref b21), .val (.int (p2 &&& (2147483647 : Int32))), .val (.int (p4 &&& (2147483647 : Int32))), .val (.int (p5 &&& (2147483647 : Int32))), .val (.int mA), .val (.int mB), .val (.int r_48), .val (.int r_52), .val .null, .val (own_val oa), .val (own_val ob), .val (own_val oe), .val (own_val (M2 (own_key r_48 r_52))), .val (own_val (M2 (own_key r_48 r_52))), .val (own_val oA), .val (.ref b_163)] [(own_val oe)]) t) => q166 t (by
    show Go p e below T163 (mkF m 294 #[.val (.int p1), .val (.int p2), .val (.int p3), .val (.int p4), .val (.int p5), .val (.int p6), .val (.ref b21), .val (.int (p2 &&& (2147483647 : Int32))), .val (.int (p4 &&& (2147483647 : Int32))), .val (.int (p5 &&& (2147483647 : Int32))), .val (.int mA), .val (.int mB), .val (.int r_48), .val (.int r_52), .val .null, .val (own_val oa), .val (own_val ob), .val (own_val oe), .val (own_val (M2 (own_key r_48 r_52))), .val (own_val (M2 (own_key r_48 r_52))), .val (own_val oA), .unset] [(.ref b_163)]) _
    refine XS.astore X163.here hx rfl (hb hby at_294) rfl rfl (l' := #[.val (.int p1), .val (.int p2), .val (.int p3), .val (.int p4), .val (.int p5), .val (.int p6), .val (.ref b21), .val (.int (p2 &&& (2147483647 : Int32))), .val (.int (p4 &&& (2147483647 : Int32))), .val (.int (p5 &&& (2147483647 : Int32))), .val (.int mA), .val (.int mB), .val (.int r_48), .val (.int r_52), .val .null, .val (own_val oa), .val (own_val ob), .val (own_val oe), .val (own_val (M2 (own_key r_48 r_52))), .val (own_val (M2 (own_key r_48 r_52))), .val (own_val oA), .val (.ref b_163)]) rfl ?_
    show Go p e below T163 (mkF m 296 #[.val (.int p1), .val (.int p2), .val (.int p3), .val (.int p4), .val (.int p5), .val (.int p6), .val (.ref b21), .val (.int (p2 &&& (2147483647 : Int32))), .val (.int (p4 &&& (2147483647 : Int32))), .val (.int (p5 &&& (2147483647 : Int32))), .val (.int mA), .val (.int mB), .val (.int r_48), .val (.int r_52), .val .null, .val (own_val oa), .val (own_val ob), .val (own_val oe), .val (own_val (M2 (own_key r_48 r_52))), .val (own_val (M2 (own_key r_48 r_52))), .val (own_val oA), .val (.ref b_163)] []) _
    refine XS.aload X163.here hx rfl (hb hby at_296) rfl (own_val_ref _) ?_
    exact kt)
  rcases own_opt (oe) with ho | ⟨x', ho⟩
  · skip
    have q169 : ∀ t, Go p e below T163 (mkF m 298 #[.val (.int p1), .val (.int p2), .val (.int p3), .val (.int p4), .val (.int p5), .val (.int p6), .val (.ref b21), .val (.int (p2 &&& (2147483647 : Int32))), .val (.int (p4 &&& (2147483647 : Int32))), .val (.int (p5 &&& (2147483647 : Int32))), .val (.int mA), .val (.int mB), .val (.int r_48), .val (.int r_52), .val .null, .val (own_val oa), .val (own_val ob), .val .null, .val (own_val (M2 (own_key r_48 r_52))), .val (own_val (M2 (own_key r_48 r_52))), .val (own_val oA), .val (.ref b_163)] [.null]) t → Go p e below s₁ (entryFrame m #[(.int p1), (.int p2), (.int p3), (.int p4), (.int p5), (.int p6)] maxLocals) t := fun t kt => q168 t (by rw [ho]; exact kt)
    have q170 := fun t (kt : Go p e below T163 (mkF m 337 #[.val (.int p1), .val (.int p2), .val (.int p3), .val (.int p4), .val (.int p5), .val (.int p6), .val (.ref b21), .val (.int (p2 &&& (2147483647 : Int32))), .val (.int (p4 &&& (2147483647 : Int32))), .val (.int (p5 &&& (2147483647 : Int32))), .val (.int mA), .val (.int mB), .val (.int r_48), .val (.int r_52), .val .null, .val (own_val oa), .val (own_val ob), .val .null, .val (own_val (M2 (own_key r_48 r_52))), .val (own_val (M2 (own_key r_48 r_52))), .val (own_val oA), .val (.ref b_163)] [(.int r_52), (.int r_48), (.ref b21)]) t) => q169 t (by
      show Go p e below T163 (mkF m 298 #[.val (.int p1), .val (.int p2), .val (.int p3), .val (.int p4), .val (.int p5), .val (.int p6), .val (.ref b21), .val (.int (p2 &&& (2147483647 : Int32))), .val (.int (p4 &&& (2147483647 : Int32))), .val (.int (p5 &&& (2147483647 : Int32))), .val (.int mA), .val (.int mB), .val (.int r_48), .val (.int r_52), .val .null, .val (own_val oa), .val (own_val ob), .val .null, .val (own_val (M2 (own_key r_48 r_52))), .val (own_val (M2 (own_key r_48 r_52))), .val (own_val oA), .val (.ref b_163)] [.null]) _
      refine XS.ifnullYes X163.here hx rfl (pc0 := 298) (pc' := 310) rfl (hb hby at_298) rfl (by decide) (by decide) ?_
      show Go p e below T163 (mkF m 310 #[.val (.int p1), .val (.int p2), .val (.int p3), .val (.int p4), .val (.int p5), .val (.int p6), .val (.ref b21), .val (.int (p2 &&& (2147483647 : Int32))), .val (.int (p4 &&& (2147483647 : Int32))), .val (.int (p5 &&& (2147483647 : Int32))), .val (.int mA), .val (.int mB), .val (.int r_48), .val (.int r_52), .val .null, .val (own_val oa), .val (own_val ob), .val .null, .val (own_val (M2 (own_key r_48 r_52))), .val (own_val (M2 (own_key r_48 r_52))), .val (own_val oA), .val (.ref b_163)] []) _
      refine XS.aload X163.here hx rfl (hb hby at_310) rfl rfl ?_
      show Go p e below T163 (mkF m 312 #[.val (.int p1), .val (.int p2), .val (.int p3), .val (.int p4), .val (.int p5), .val (.int p6), .val (.ref b21), .val (.int (p2 &&& (2147483647 : Int32))), .val (.int (p4 &&& (2147483647 : Int32))), .val (.int (p5 &&& (2147483647 : Int32))), .val (.int mA), .val (.int mB), .val (.int r_48), .val (.int r_52), .val .null, .val (own_val oa), .val (own_val ob), .val .null, .val (own_val (M2 (own_key r_48 r_52))), .val (own_val (M2 (own_key r_48 r_52))), .val (own_val oA), .val (.ref b_163)] [(.ref b_163)]) _
      refine XS.ifnullNo X163.here hx rfl (hb hby at_312) rfl ?_
      show Go p e below T163 (mkF m 315 #[.val (.int p1), .val (.int p2), .val (.int p3), .val (.int p4), .val (.int p5), .val (.int p6), .val (.ref b21), .val (.int (p2 &&& (2147483647 : Int32))), .val (.int (p4 &&& (2147483647 : Int32))), .val (.int (p5 &&& (2147483647 : Int32))), .val (.int mA), .val (.int mB), .val (.int r_48), .val (.int r_52), .val .null, .val (own_val oa), .val (own_val ob), .val .null, .val (own_val (M2 (own_key r_48 r_52))), .val (own_val (M2 (own_key r_48 r_52))), .val (own_val oA), .val (.ref b_163)] []) _
      refine XS.aload X163.here hx rfl (hb hby at_315) rfl rfl ?_
      show Go p e below T163 (mkF m 317 #[.val (.int p1), .val (.int p2), .val (.int p3), .val (.int p4), .val (.int p5), .val (.int p6), .val (.ref b21), .val (.int (p2 &&& (2147483647 : Int32))), .val (.int (p4 &&& (2147483647 : Int32))), .val (.int (p5 &&& (2147483647 : Int32))), .val (.int mA), .val (.int mB), .val (.int r_48), .val (.int r_52), .val .null, .val (own_val oa), .val (own_val ob), .val .null, .val (own_val (M2 (own_key r_48 r_52))), .val (own_val (M2 (own_key r_48 r_52))), .val (own_val oA), .val (.ref b_163)] [(.ref b_163)]) _
      refine XS.aload X163.here hx rfl (hb hby at_317) rfl (own_val_ref _) ?_
      show Go p e below T163 (mkF m 319 #[.val (.int p1), .val (.int p2), .val (.int p3), .val (.int p4), .val (.int p5), .val (.int p6), .val (.ref b21), .val (.int (p2 &&& (2147483647 : Int32))), .val (.int (p4 &&& (2147483647 : Int32))), .val (.int (p5 &&& (2147483647 : Int32))), .val (.int mA), .val (.int mB), .val (.int r_48), .val (.int r_52), .val .null, .val (own_val oa), .val (own_val ob), .val .null, .val (own_val (M2 (own_key r_48 r_52))), .val (own_val (M2 (own_key r_48 r_52))), .val (own_val oA), .val (.ref b_163)] [(own_val oa), (.ref b_163)]) _
      refine Jvm.RoadKit.acmp (g := (mkF m 319 #[.val (.int p1), .val (.int p2), .val (.int p3), .val (.int p4), .val (.int p5), .val (.int p6), .val (.ref b21), .val (.int (p2 &&& (2147483647 : Int32))), .val (.int (p4 &&& (2147483647 : Int32))), .val (.int (p5 &&& (2147483647 : Int32))), .val (.int mA), .val (.int mB), .val (.int r_48), .val (.int r_52), .val .null, .val (own_val oa), .val (own_val ob), .val .null, .val (own_val (M2 (own_key r_48 r_52))), .val (own_val (M2 (own_key r_48 r_52))), .val (own_val oA), .val (.ref b_163)] [(own_val oa), (.ref b_163)])) X163 hx rfl rfl (own_val_ref _) (pc0 := 319) (pc' := 322) (same := false) rfl (hb hby at_319) rfl (decide_eq_false (own_frv mp75_1 (own_new pq163_0 mp88_0 ho))) (by decide) (by decide) ?_
      show Go p e below T163 (mkF m 322 #[.val (.int p1), .val (.int p2), .val (.int p3), .val (.int p4), .val (.int p5), .val (.int p6), .val (.ref b21), .val (.int (p2 &&& (2147483647 : Int32))), .val (.int (p4 &&& (2147483647 : Int32))), .val (.int (p5 &&& (2147483647 : Int32))), .val (.int mA), .val (.int mB), .val (.int r_48), .val (.int r_52), .val .null, .val (own_val oa), .val (own_val ob), .val .null, .val (own_val (M2 (own_key r_48 r_52))), .val (own_val (M2 (own_key r_48 r_52))), .val (own_val oA), .val (.ref b_163)] []) _
      refine XS.aload X163.here hx rfl (hb hby at_322) rfl rfl ?_
      show Go p e below T163 (mkF m 324 #[.val (.int p1), .val (.int p2), .val (.int p3), .val (.int p4), .val (.int p5), .val (.int p6), .val (.ref b21), .val (.int (p2 &&& (2147483647 : Int32))), .val (.int (p4 &&& (2147483647 : Int32))), .val (.int (p5 &&& (2147483647 : Int32))), .val (.int mA), .val (.int mB), .val (.int r_48), .val (.int r_52), .val .null, .val (own_val oa), .val (own_val ob), .val .null, .val (own_val (M2 (own_key r_48 r_52))), .val (own_val (M2 (own_key r_48 r_52))), .val (own_val oA), .val (.ref b_163)] [(.ref b_163)]) _
      refine XS.aload X163.here hx rfl (hb hby at_324) rfl (own_val_ref _) ?_
      show Go p e below T163 (mkF m 326 #[.val (.int p1), .val (.int p2), .val (.int p3), .val (.int p4), .val (.int p5), .val (.int p6), .val (.ref b21), .val (.int (p2 &&& (2147483647 : Int32))), .val (.int (p4 &&& (2147483647 : Int32))), .val (.int (p5 &&& (2147483647 : Int32))), .val (.int mA), .val (.int mB), .val (.int r_48), .val (.int r_52), .val .null, .val (own_val oa), .val (own_val ob), .val .null, .val (own_val (M2 (own_key r_48 r_52))), .val (own_val (M2 (own_key r_48 r_52))), .val (own_val oA), .val (.ref b_163)] [(own_val ob), (.ref b_163)]) _
      refine Jvm.RoadKit.acmp (g := (mkF m 326 #[.val (.int p1), .val (.int p2), .val (.int p3), .val (.int p4), .val (.int p5), .val (.int p6), .val (.ref b21), .val (.int (p2 &&& (2147483647 : Int32))), .val (.int (p4 &&& (2147483647 : Int32))), .val (.int (p5 &&& (2147483647 : Int32))), .val (.int mA), .val (.int mB), .val (.int r_48), .val (.int r_52), .val .null, .val (own_val oa), .val (own_val ob), .val .null, .val (own_val (M2 (own_key r_48 r_52))), .val (own_val (M2 (own_key r_48 r_52))), .val (own_val oA), .val (.ref b_163)] [(own_val ob), (.ref b_163)])) X163 hx rfl rfl (own_val_ref _) (pc0 := 326) (pc' := 331) (same := false) rfl (hb hby at_326) rfl (decide_eq_false (own_frv mp75_2 (own_new pq163_0 mp88_0 ho))) (by decide) (by decide) ?_
      show Go p e below T163 (mkF m 331 #[.val (.int p1), .val (.int p2), .val (.int p3), .val (.int p4), .val (.int p5), .val (.int p6), .val (.ref b21), .val (.int (p2 &&& (2147483647 : Int32))), .val (.int (p4 &&& (2147483647 : Int32))), .val (.int (p5 &&& (2147483647 : Int32))), .val (.int mA), .val (.int mB), .val (.int r_48), .val (.int r_52), .val .null, .val (own_val oa), .val (own_val ob), .val .null, .val (own_val (M2 (own_key r_48 r_52))), .val (own_val (M2 (own_key r_48 r_52))), .val (own_val oA), .val (.ref b_163)] []) _
      refine XS.aload X163.here hx rfl (hb hby at_331) rfl rfl ?_
      show Go p e below T163 (mkF m 333 #[.val (.int p1), .val (.int p2), .val (.int p3), .val (.int p4), .val (.int p5), .val (.int p6), .val (.ref b21), .val (.int (p2 &&& (2147483647 : Int32))), .val (.int (p4 &&& (2147483647 : Int32))), .val (.int (p5 &&& (2147483647 : Int32))), .val (.int mA), .val (.int mB), .val (.int r_48), .val (.int r_52), .val .null, .val (own_val oa), .val (own_val ob), .val .null, .val (own_val (M2 (own_key r_48 r_52))), .val (own_val (M2 (own_key r_48 r_52))), .val (own_val oA), .val (.ref b_163)] [(.ref b21)]) _
      refine XS.iload X163.here hx rfl (hb hby at_333) rfl ?_
      show Go p e below T163 (mkF m 335 #[.val (.int p1), .val (.int p2), .val (.int p3), .val (.int p4), .val (.int p5), .val (.int p6), .val (.ref b21), .val (.int (p2 &&& (2147483647 : Int32))), .val (.int (p4 &&& (2147483647 : Int32))), .val (.int (p5 &&& (2147483647 : Int32))), .val (.int mA), .val (.int mB), .val (.int r_48), .val (.int r_52), .val .null, .val (own_val oa), .val (own_val ob), .val .null, .val (own_val (M2 (own_key r_48 r_52))), .val (own_val (M2 (own_key r_48 r_52))), .val (own_val oA), .val (.ref b_163)] [(.int r_48), (.ref b21)]) _
      refine XS.iload X163.here hx rfl (hb hby at_335) rfl ?_
      exact kt)
    have f173 : Exa Z T163.heap b21 "com/example/pointward/pointward/pointsto/ConstraintGraph" := (mf75_0.keep Kq163)
    obtain ⟨cq172, kq172, q172a, q172b, q172c⟩ := isOf hZ rfl f173
    obtain ⟨_, _, ⟨T171, L171, k171, n171⟩, -, X171, ⟨Lc171, hQ171, l171, y171, z171⟩, st171⟩ := X163.virtualBack hx (y := (⟨"com/example/pointward/pointward/pointsto/ConstraintGraph", "existingField", "(II)Lcom/example/pointward/pointward/pointsto/ConstraintGraph$Node;"⟩ : MethodName)) (z := (⟨"com/example/pointward/pointward/pointsto/ConstraintGraph", "existingField", "(II)Lcom/example/pointward/pointward/pointsto/ConstraintGraph$Node;"⟩ : MethodName)) hown (mvT hZ (own_w hw 50 rfl)) (mvT hZ (own_w hw 51 rfl)) (notFace_of_selects (args := #[]) (mvT hZ (own_w hw 53 rfl))) (mvT hZ (own_w hw 53 rfl)) (mvT hZ (own_w hw 52 rfl)) (by decide) (backOf (W := 0) (rm7 l Z a0 hw [] cx b21 r_48 r_52 tl_26 ka_26 va_26 (M'_163) (n'_163) T163.heap n0 O167 fq163_0 fq163_2 (by omega : n'_163 ≤ 3)) hZ (own_w hw 54 rfl) (own_w hw 2 rfl) (by decide) (by decide)) q172a q172c (g := (mkF m 337 #[.val (.int p1), .val (.int p2), .val (.int p3), .val (.int p4), .val (.int p5), .val (.int p6), .val (.ref b21), .val (.int (p2 &&& (2147483647 : Int32))), .val (.int (p4 &&& (2147483647 : Int32))), .val (.int (p5 &&& (2147483647 : Int32))), .val (.int mA), .val (.int mB), .val (.int r_48), .val (.int r_52), .val .null, .val (own_val oa), .val (own_val ob), .val .null, .val (own_val (M2 (own_key r_48 r_52))), .val (own_val (M2 (own_key r_48 r_52))), .val (own_val oA), .val (.ref b_163)] [(.int r_52), (.int r_48), (.ref b21)])) rfl (by rw [hml]; rfl) (Steps.refl _) (argsL := [(.int r_48), (.int r_52)]) (rest := []) (lenOf pd_8 rfl) rfl (by show 2 * 0 + _ ≤ _; exact Nat.le_of_eq rfl) (hb hby at_337) (fun _ _ => ⟨rfl, rfl, (by decide : 21 + 0 ≤ _), (by decide : 133 + 0 ≤ _)⟩)
    dsimp only [Pt.U, Pt.locs, Pt.cells, Pt.slots] at X171 l171 y171 z171 st171 hQ171
    subst l171 y171 z171
    obtain ⟨rfl, Nq171, eq171⟩ := hQ171
    have N174 := Fr.app N165 Nq171
    have q175 := fun t (kt : Go p e below T171 (mkF m 340 #[.val (.int p1), .val (.int p2), .val (.int p3), .val (.int p4), .val (.int p5), .val (.int p6), .val (.ref b21), .val (.int (p2 &&& (2147483647 : Int32))), .val (.int (p4 &&& (2147483647 : Int32))), .val (.int (p5 &&& (2147483647 : Int32))), .val (.int mA), .val (.int mB), .val (.int r_48), .val (.int r_52), .val .null, .val (own_val oa), .val (own_val ob), .val .null, .val (own_val (M2 (own_key r_48 r_52))), .val (own_val (M2 (own_key r_48 r_52))), .val (own_val oA), .val (.ref b_163)] [(own_val (M'_163 (own_key r_48 r_52)))]) t) => q170 t (st171.trans kt)
    have q176 := fun t (kt : Go p e below T171 (mkF m 350 #[.val (.int p1), .val (.int p2), .val (.int p3), .val (.int p4), .val (.int p5), .val (.int p6), .val (.ref b21), .val (.int (p2 &&& (2147483647 : Int32))), .val (.int (p4 &&& (2147483647 : Int32))), .val (.int (p5 &&& (2147483647 : Int32))), .val (.int mA), .val (.int mB), .val (.int r_48), .val (.int r_52), .val .null, .val (own_val oa), .val (own_val ob), .val .null, .val (own_val (M2 (own_key r_48 r_52))), .val (own_val (M2 (own_key r_48 r_52))), .val (own_val oA), .val (.ref b_163)] [(.int (1 : Int32))]) t) => q175 t (by
      show Go p e below T171 (mkF m 340 #[.val (.int p1), .val (.int p2), .val (.int p3), .val (.int p4), .val (.int p5), .val (.int p6), .val (.ref b21), .val (.int (p2 &&& (2147483647 : Int32))), .val (.int (p4 &&& (2147483647 : Int32))), .val (.int (p5 &&& (2147483647 : Int32))), .val (.int mA), .val (.int mB), .val (.int r_48), .val (.int r_52), .val .null, .val (own_val oa), .val (own_val ob), .val .null, .val (own_val (M2 (own_key r_48 r_52))), .val (own_val (M2 (own_key r_48 r_52))), .val (own_val oA), .val (.ref b_163)] [(own_val (M'_163 (own_key r_48 r_52)))]) _
      refine XS.aload X171.here hx rfl (hb hby at_340) rfl rfl ?_
      show Go p e below T171 (mkF m 342 #[.val (.int p1), .val (.int p2), .val (.int p3), .val (.int p4), .val (.int p5), .val (.int p6), .val (.ref b21), .val (.int (p2 &&& (2147483647 : Int32))), .val (.int (p4 &&& (2147483647 : Int32))), .val (.int (p5 &&& (2147483647 : Int32))), .val (.int mA), .val (.int mB), .val (.int r_48), .val (.int r_52), .val .null, .val (own_val oa), .val (own_val ob), .val .null, .val (own_val (M2 (own_key r_48 r_52))), .val (own_val (M2 (own_key r_48 r_52))), .val (own_val oA), .val (.ref b_163)] [(.ref b_163), (own_val (M'_163 (own_key r_48 r_52)))]) _
      refine Jvm.RoadKit.acmp (g := (mkF m 342 #[.val (.int p1), .val (.int p2), .val (.int p3), .val (.int p4), .val (.int p5), .val (.int p6), .val (.ref b21), .val (.int (p2 &&& (2147483647 : Int32))), .val (.int (p4 &&& (2147483647 : Int32))), .val (.int (p5 &&& (2147483647 : Int32))), .val (.int mA), .val (.int mB), .val (.int r_48), .val (.int r_52), .val .null, .val (own_val oa), .val (own_val ob), .val .null, .val (own_val (M2 (own_key r_48 r_52))), .val (own_val (M2 (own_key r_48 r_52))), .val (own_val oA), .val (.ref b_163)] [(.ref b_163), (own_val (M'_163 (own_key r_48 r_52)))])) X171 hx rfl (own_val_ref _) rfl (pc0 := 342) (pc' := 345) (same := true) rfl (hb hby at_342) rfl (decide_eq_true (by rw [pq163_0.1]; rfl)) (by decide) (by decide) ?_
      show Go p e below T171 (mkF m 345 #[.val (.int p1), .val (.int p2), .val (.int p3), .val (.int p4), .val (.int p5), .val (.int p6), .val (.ref b21), .val (.int (p2 &&& (2147483647 : Int32))), .val (.int (p4 &&& (2147483647 : Int32))), .val (.int (p5 &&& (2147483647 : Int32))), .val (.int mA), .val (.int mB), .val (.int r_48), .val (.int r_52), .val .null, .val (own_val oa), .val (own_val ob), .val .null, .val (own_val (M2 (own_key r_48 r_52))), .val (own_val (M2 (own_key r_48 r_52))), .val (own_val oA), .val (.ref b_163)] []) _
      refine XS.iconst X171.here hx rfl (hb hby at_345) ?_
      show Go p e below T171 (mkF m 346 #[.val (.int p1), .val (.int p2), .val (.int p3), .val (.int p4), .val (.int p5), .val (.int p6), .val (.ref b21), .val (.int (p2 &&& (2147483647 : Int32))), .val (.int (p4 &&& (2147483647 : Int32))), .val (.int (p5 &&& (2147483647 : Int32))), .val (.int mA), .val (.int mB), .val (.int r_48), .val (.int r_52), .val .null, .val (own_val oa), .val (own_val ob), .val .null, .val (own_val (M2 (own_key r_48 r_52))), .val (own_val (M2 (own_key r_48 r_52))), .val (own_val oA), .val (.ref b_163)] [(.int (1 : Int32))]) _
      refine XS.goto X171.here hx rfl (pc0 := 346) (pc' := 350) rfl (hb hby at_346) (by decide) (by decide) ?_
      exact kt)
    exact ⟨some (.int (1 : Int32)), T171, _, _, _, _, X171, by decide, by decide, nofun, q176, fun fs hr => retN X171 hx (t := .boolean) hret (by simp) (hb hby at_350) hr, by rw [eq171]; exact ⟨rfl, N174⟩⟩
  · skip
    have q177 : ∀ t, Go p e below T163 (mkF m 298 #[.val (.int p1), .val (.int p2), .val (.int p3), .val (.int p4), .val (.int p5), .val (.int p6), .val (.ref b21), .val (.int (p2 &&& (2147483647 : Int32))), .val (.int (p4 &&& (2147483647 : Int32))), .val (.int (p5 &&& (2147483647 : Int32))), .val (.int mA), .val (.int mB), .val (.int r_48), .val (.int r_52), .val .null, .val (own_val oa), .val (own_val ob), .val (.ref x'), .val (own_val (M2 (own_key r_48 r_52))), .val (own_val (M2 (own_key r_48 r_52))), .val (own_val oA), .val (.ref b_163)] [(.ref x')]) t → Go p e below s₁ (entryFrame m #[(.int p1), (.int p2), (.int p3), (.int p4), (.int p5), (.int p6)] maxLocals) t := fun t kt => q168 t (by rw [ho]; exact kt)
    have q178 := fun t (kt : Go p e below T163 (mkF m 337 #[.val (.int p1), .val (.int p2), .val (.int p3), .val (.int p4), .val (.int p5), .val (.int p6), .val (.ref b21), .val (.int (p2 &&& (2147483647 : Int32))), .val (.int (p4 &&& (2147483647 : Int32))), .val (.int (p5 &&& (2147483647 : Int32))), .val (.int mA), .val (.int mB), .val (.int r_48), .val (.int r_52), .val .null, .val (own_val oa), .val (own_val ob), .val (.ref x'), .val (own_val (M2 (own_key r_48 r_52))), .val (own_val (M2 (own_key r_48 r_52))), .val (own_val oA), .val (.ref b_163)] [(.int r_52), (.int r_48), (.ref b21)]) t) => q177 t (by
      show Go p e below T163 (mkF m 298 #[.val (.int p1), .val (.int p2), .val (.int p3), .val (.int p4), .val (.int p5), .val (.int p6), .val (.ref b21), .val (.int (p2 &&& (2147483647 : Int32))), .val (.int (p4 &&& (2147483647 : Int32))), .val (.int (p5 &&& (2147483647 : Int32))), .val (.int mA), .val (.int mB), .val (.int r_48), .val (.int r_52), .val .null, .val (own_val oa), .val (own_val ob), .val (.ref x'), .val (own_val (M2 (own_key r_48 r_52))), .val (own_val (M2 (own_key r_48 r_52))), .val (own_val oA), .val (.ref b_163)] [(.ref x')]) _
      refine XS.ifnullNo X163.here hx rfl (hb hby at_298) rfl ?_
      show Go p e below T163 (mkF m 301 #[.val (.int p1), .val (.int p2), .val (.int p3), .val (.int p4), .val (.int p5), .val (.int p6), .val (.ref b21), .val (.int (p2 &&& (2147483647 : Int32))), .val (.int (p4 &&& (2147483647 : Int32))), .val (.int (p5 &&& (2147483647 : Int32))), .val (.int mA), .val (.int mB), .val (.int r_48), .val (.int r_52), .val .null, .val (own_val oa), .val (own_val ob), .val (.ref x'), .val (own_val (M2 (own_key r_48 r_52))), .val (own_val (M2 (own_key r_48 r_52))), .val (own_val oA), .val (.ref b_163)] []) _
      refine XS.aload X163.here hx rfl (hb hby at_301) rfl rfl ?_
      show Go p e below T163 (mkF m 303 #[.val (.int p1), .val (.int p2), .val (.int p3), .val (.int p4), .val (.int p5), .val (.int p6), .val (.ref b21), .val (.int (p2 &&& (2147483647 : Int32))), .val (.int (p4 &&& (2147483647 : Int32))), .val (.int (p5 &&& (2147483647 : Int32))), .val (.int mA), .val (.int mB), .val (.int r_48), .val (.int r_52), .val .null, .val (own_val oa), .val (own_val ob), .val (.ref x'), .val (own_val (M2 (own_key r_48 r_52))), .val (own_val (M2 (own_key r_48 r_52))), .val (own_val oA), .val (.ref b_163)] [(.ref b_163)]) _
      refine XS.aload X163.here hx rfl (hb hby at_303) rfl rfl ?_
      show Go p e below T163 (mkF m 305 #[.val (.int p1), .val (.int p2), .val (.int p3), .val (.int p4), .val (.int p5), .val (.int p6), .val (.ref b21), .val (.int (p2 &&& (2147483647 : Int32))), .val (.int (p4 &&& (2147483647 : Int32))), .val (.int (p5 &&& (2147483647 : Int32))), .val (.int mA), .val (.int mB), .val (.int r_48), .val (.int r_52), .val .null, .val (own_val oa), .val (own_val ob), .val (.ref x'), .val (own_val (M2 (own_key r_48 r_52))), .val (own_val (M2 (own_key r_48 r_52))), .val (own_val oA), .val (.ref b_163)] [(.ref x'), (.ref b_163)]) _
      refine Jvm.RoadKit.acmp (g := (mkF m 305 #[.val (.int p1), .val (.int p2), .val (.int p3), .val (.int p4), .val (.int p5), .val (.int p6), .val (.ref b21), .val (.int (p2 &&& (2147483647 : Int32))), .val (.int (p4 &&& (2147483647 : Int32))), .val (.int (p5 &&& (2147483647 : Int32))), .val (.int mA), .val (.int mB), .val (.int r_48), .val (.int r_52), .val .null, .val (own_val oa), .val (own_val ob), .val (.ref x'), .val (own_val (M2 (own_key r_48 r_52))), .val (own_val (M2 (own_key r_48 r_52))), .val (own_val oA), .val (.ref b_163)] [(.ref x'), (.ref b_163)])) X163 hx rfl rfl rfl (pc0 := 305) (pc' := 331) (same := true) rfl (hb hby at_305) rfl (decide_eq_true (congrArg Value.ref (own_same pq163_0 mp88_0 ho))) (by decide) (by decide) ?_
      show Go p e below T163 (mkF m 331 #[.val (.int p1), .val (.int p2), .val (.int p3), .val (.int p4), .val (.int p5), .val (.int p6), .val (.ref b21), .val (.int (p2 &&& (2147483647 : Int32))), .val (.int (p4 &&& (2147483647 : Int32))), .val (.int (p5 &&& (2147483647 : Int32))), .val (.int mA), .val (.int mB), .val (.int r_48), .val (.int r_52), .val .null, .val (own_val oa), .val (own_val ob), .val (.ref x'), .val (own_val (M2 (own_key r_48 r_52))), .val (own_val (M2 (own_key r_48 r_52))), .val (own_val oA), .val (.ref b_163)] []) _
      refine XS.aload X163.here hx rfl (hb hby at_331) rfl rfl ?_
      show Go p e below T163 (mkF m 333 #[.val (.int p1), .val (.int p2), .val (.int p3), .val (.int p4), .val (.int p5), .val (.int p6), .val (.ref b21), .val (.int (p2 &&& (2147483647 : Int32))), .val (.int (p4 &&& (2147483647 : Int32))), .val (.int (p5 &&& (2147483647 : Int32))), .val (.int mA), .val (.int mB), .val (.int r_48), .val (.int r_52), .val .null, .val (own_val oa), .val (own_val ob), .val (.ref x'), .val (own_val (M2 (own_key r_48 r_52))), .val (own_val (M2 (own_key r_48 r_52))), .val (own_val oA), .val (.ref b_163)] [(.ref b21)]) _
      refine XS.iload X163.here hx rfl (hb hby at_333) rfl ?_
      show Go p e below T163 (mkF m 335 #[.val (.int p1), .val (.int p2), .val (.int p3), .val (.int p4), .val (.int p5), .val (.int p6), .val (.ref b21), .val (.int (p2 &&& (2147483647 : Int32))), .val (.int (p4 &&& (2147483647 : Int32))), .val (.int (p5 &&& (2147483647 : Int32))), .val (.int mA), .val (.int mB), .val (.int r_48), .val (.int r_52), .val .null, .val (own_val oa), .val (own_val ob), .val (.ref x'), .val (own_val (M2 (own_key r_48 r_52))), .val (own_val (M2 (own_key r_48 r_52))), .val (own_val oA), .val (.ref b_163)] [(.int r_48), (.ref b21)]) _
      refine XS.iload X163.here hx rfl (hb hby at_335) rfl ?_
      exact kt)
    have f181 : Exa Z T163.heap b21 "com/example/pointward/pointward/pointsto/ConstraintGraph" := (mf75_0.keep Kq163)
    obtain ⟨cq180, kq180, q180a, q180b, q180c⟩ := isOf hZ rfl f181
    obtain ⟨_, _, ⟨T179, L179, k179, n179⟩, -, X179, ⟨Lc179, hQ179, l179, y179, z179⟩, st179⟩ := X163.virtualBack hx (y := (⟨"com/example/pointward/pointward/pointsto/ConstraintGraph", "existingField", "(II)Lcom/example/pointward/pointward/pointsto/ConstraintGraph$Node;"⟩ : MethodName)) (z := (⟨"com/example/pointward/pointward/pointsto/ConstraintGraph", "existingField", "(II)Lcom/example/pointward/pointward/pointsto/ConstraintGraph$Node;"⟩ : MethodName)) hown (mvT hZ (own_w hw 50 rfl)) (mvT hZ (own_w hw 51 rfl)) (notFace_of_selects (args := #[]) (mvT hZ (own_w hw 53 rfl))) (mvT hZ (own_w hw 53 rfl)) (mvT hZ (own_w hw 52 rfl)) (by decide) (backOf (W := 0) (rm7 l Z a0 hw [] cx b21 r_48 r_52 tl_26 ka_26 va_26 (M'_163) (n'_163) T163.heap n0 O167 fq163_0 fq163_2 (by omega : n'_163 ≤ 3)) hZ (own_w hw 54 rfl) (own_w hw 2 rfl) (by decide) (by decide)) q180a q180c (g := (mkF m 337 #[.val (.int p1), .val (.int p2), .val (.int p3), .val (.int p4), .val (.int p5), .val (.int p6), .val (.ref b21), .val (.int (p2 &&& (2147483647 : Int32))), .val (.int (p4 &&& (2147483647 : Int32))), .val (.int (p5 &&& (2147483647 : Int32))), .val (.int mA), .val (.int mB), .val (.int r_48), .val (.int r_52), .val .null, .val (own_val oa), .val (own_val ob), .val (.ref x'), .val (own_val (M2 (own_key r_48 r_52))), .val (own_val (M2 (own_key r_48 r_52))), .val (own_val oA), .val (.ref b_163)] [(.int r_52), (.int r_48), (.ref b21)])) rfl (by rw [hml]; rfl) (Steps.refl _) (argsL := [(.int r_48), (.int r_52)]) (rest := []) (lenOf pd_8 rfl) rfl (by show 2 * 0 + _ ≤ _; exact Nat.le_of_eq rfl) (hb hby at_337) (fun _ _ => ⟨rfl, rfl, (by decide : 21 + 0 ≤ _), (by decide : 133 + 0 ≤ _)⟩)
    dsimp only [Pt.U, Pt.locs, Pt.cells, Pt.slots] at X179 l179 y179 z179 st179 hQ179
    subst l179 y179 z179
    obtain ⟨rfl, Nq179, eq179⟩ := hQ179
    have N182 := Fr.app N165 Nq179
    have q183 := fun t (kt : Go p e below T179 (mkF m 340 #[.val (.int p1), .val (.int p2), .val (.int p3), .val (.int p4), .val (.int p5), .val (.int p6), .val (.ref b21), .val (.int (p2 &&& (2147483647 : Int32))), .val (.int (p4 &&& (2147483647 : Int32))), .val (.int (p5 &&& (2147483647 : Int32))), .val (.int mA), .val (.int mB), .val (.int r_48), .val (.int r_52), .val .null, .val (own_val oa), .val (own_val ob), .val (.ref x'), .val (own_val (M2 (own_key r_48 r_52))), .val (own_val (M2 (own_key r_48 r_52))), .val (own_val oA), .val (.ref b_163)] [(own_val (M'_163 (own_key r_48 r_52)))]) t) => q178 t (st179.trans kt)
    have q184 := fun t (kt : Go p e below T179 (mkF m 350 #[.val (.int p1), .val (.int p2), .val (.int p3), .val (.int p4), .val (.int p5), .val (.int p6), .val (.ref b21), .val (.int (p2 &&& (2147483647 : Int32))), .val (.int (p4 &&& (2147483647 : Int32))), .val (.int (p5 &&& (2147483647 : Int32))), .val (.int mA), .val (.int mB), .val (.int r_48), .val (.int r_52), .val .null, .val (own_val oa), .val (own_val ob), .val (.ref x'), .val (own_val (M2 (own_key r_48 r_52))), .val (own_val (M2 (own_key r_48 r_52))), .val (own_val oA), .val (.ref b_163)] [(.int (1 : Int32))]) t) => q183 t (by
      show Go p e below T179 (mkF m 340 #[.val (.int p1), .val (.int p2), .val (.int p3), .val (.int p4), .val (.int p5), .val (.int p6), .val (.ref b21), .val (.int (p2 &&& (2147483647 : Int32))), .val (.int (p4 &&& (2147483647 : Int32))), .val (.int (p5 &&& (2147483647 : Int32))), .val (.int mA), .val (.int mB), .val (.int r_48), .val (.int r_52), .val .null, .val (own_val oa), .val (own_val ob), .val (.ref x'), .val (own_val (M2 (own_key r_48 r_52))), .val (own_val (M2 (own_key r_48 r_52))), .val (own_val oA), .val (.ref b_163)] [(own_val (M'_163 (own_key r_48 r_52)))]) _
      refine XS.aload X179.here hx rfl (hb hby at_340) rfl rfl ?_
      show Go p e below T179 (mkF m 342 #[.val (.int p1), .val (.int p2), .val (.int p3), .val (.int p4), .val (.int p5), .val (.int p6), .val (.ref b21), .val (.int (p2 &&& (2147483647 : Int32))), .val (.int (p4 &&& (2147483647 : Int32))), .val (.int (p5 &&& (2147483647 : Int32))), .val (.int mA), .val (.int mB), .val (.int r_48), .val (.int r_52), .val .null, .val (own_val oa), .val (own_val ob), .val (.ref x'), .val (own_val (M2 (own_key r_48 r_52))), .val (own_val (M2 (own_key r_48 r_52))), .val (own_val oA), .val (.ref b_163)] [(.ref b_163), (own_val (M'_163 (own_key r_48 r_52)))]) _
      refine Jvm.RoadKit.acmp (g := (mkF m 342 #[.val (.int p1), .val (.int p2), .val (.int p3), .val (.int p4), .val (.int p5), .val (.int p6), .val (.ref b21), .val (.int (p2 &&& (2147483647 : Int32))), .val (.int (p4 &&& (2147483647 : Int32))), .val (.int (p5 &&& (2147483647 : Int32))), .val (.int mA), .val (.int mB), .val (.int r_48), .val (.int r_52), .val .null, .val (own_val oa), .val (own_val ob), .val (.ref x'), .val (own_val (M2 (own_key r_48 r_52))), .val (own_val (M2 (own_key r_48 r_52))), .val (own_val oA), .val (.ref b_163)] [(.ref b_163), (own_val (M'_163 (own_key r_48 r_52)))])) X179 hx rfl (own_val_ref _) rfl (pc0 := 342) (pc' := 345) (same := true) rfl (hb hby at_342) rfl (decide_eq_true (by rw [pq163_0.1]; rfl)) (by decide) (by decide) ?_
      show Go p e below T179 (mkF m 345 #[.val (.int p1), .val (.int p2), .val (.int p3), .val (.int p4), .val (.int p5), .val (.int p6), .val (.ref b21), .val (.int (p2 &&& (2147483647 : Int32))), .val (.int (p4 &&& (2147483647 : Int32))), .val (.int (p5 &&& (2147483647 : Int32))), .val (.int mA), .val (.int mB), .val (.int r_48), .val (.int r_52), .val .null, .val (own_val oa), .val (own_val ob), .val (.ref x'), .val (own_val (M2 (own_key r_48 r_52))), .val (own_val (M2 (own_key r_48 r_52))), .val (own_val oA), .val (.ref b_163)] []) _
      refine XS.iconst X179.here hx rfl (hb hby at_345) ?_
      show Go p e below T179 (mkF m 346 #[.val (.int p1), .val (.int p2), .val (.int p3), .val (.int p4), .val (.int p5), .val (.int p6), .val (.ref b21), .val (.int (p2 &&& (2147483647 : Int32))), .val (.int (p4 &&& (2147483647 : Int32))), .val (.int (p5 &&& (2147483647 : Int32))), .val (.int mA), .val (.int mB), .val (.int r_48), .val (.int r_52), .val .null, .val (own_val oa), .val (own_val ob), .val (.ref x'), .val (own_val (M2 (own_key r_48 r_52))), .val (own_val (M2 (own_key r_48 r_52))), .val (own_val oA), .val (.ref b_163)] [(.int (1 : Int32))]) _
      refine XS.goto X179.here hx rfl (pc0 := 346) (pc' := 350) rfl (hb hby at_346) (by decide) (by decide) ?_
      exact kt)
    exact ⟨some (.int (1 : Int32)), T179, _, _, _, _, X179, by decide, by decide, nofun, q184, fun fs hr => retN X179 hx (t := .boolean) hret (by simp) (hb hby at_350) hr, by rw [eq179]; exact ⟨rfl, N182⟩⟩
theorem comes_1 {Post : Tables → Env → Array Value → State → Outcome → State → Prop} (hpost : ∀ tb e args s v u, (limb_1_1.after args s (.returned v) u = true ∧ limb_1_2.after args s (.returned v) u = true ∧ True) → FrameEnd s (.returned v) u (Jvm.fieldLocs frame_1_writes args s ++ Jvm.arrayLocs frame_1_arrays args s ++ Jvm.staticLocs frame_1_statics s) 56 384 → Post tb e args s (.returned v) u) :
    ArmFor flags0 classFile x code maxLocals ret World_1 tables_1 room_1 Calls_1 rest_1 Pre_1 Post := by
  intro l hfl _ _ p e ha hc hk s m args below hf hA hF happ hP
  obtain ⟨hcalls, hrest, hpre⟩ := hP
  obtain ⟨-, -, -, hnamed, -, -, -, hat⟩ := (Spec.applies_iff hf).mp happ
  obtain ⟨hg, hn⟩ := and_e (Cond.before_iff.mp (show (Jvm.Cond.and given_1 narrow_1).before args s = true from hpre))
  obtain ⟨gg1, gg2⟩ := and_e hg
  obtain ⟨gg3, gg4⟩ := and_e gg2
  obtain ⟨gg5, gg6⟩ := and_e gg4
  obtain ⟨gg7, gg8⟩ := and_e gg6
  obtain ⟨gg9, gg10⟩ := and_e gg8
  obtain ⟨gg11, gg12⟩ := and_e gg10
  obtain ⟨w0, w1, w2, w3, w4, w5, rfl⟩ : ∃ w0 w1 w2 w3 w4 w5 : Value, args = #[w0, w1, w2, w3, w4, w5] := by
    have hs : args.size = 6 := by simpa [Cond.value, given_1] using gg1
    obtain ⟨L⟩ := args
    match L, hs with
    | [w0, w1, w2, w3, w4, w5], _ => exact ⟨w0, w1, w2, w3, w4, w5, rfl⟩
  have hw := fun d (hd : d ∈ tables_1) => atoms_spec (ws := Jvm.Cond.code x code maxLocals ret :: tables_1) hat d (List.mem_cons_of_mem _ hd)
  have hfit : Fit s := fun {y c} hc i hi => by
    obtain ⟨ha, rfl⟩ := Array.getElem?_eq_some_iff.mp hc
    have q := List.all_eq_true.mp ((Array.all_eq_true_iff_forall_mem.mp hF) _ (Array.getElem_mem ha)) i (List.mem_range.mpr hi)
    simpa [Array.getElem?_eq_getElem hi] using q
  obtain ⟨hsets, hown0⟩ := atoms_of _ (rest_1_c_eq ▸ (show rest_1_c.before _ s = true from hrest))
  have hr0 := Cond.before_iff.mp hown0
  obtain ⟨i0, ei0⟩ := is_v gg3
  obtain rfl : w0 = (.int i0) := Option.some.inj ei0
  obtain ⟨i1, ei1⟩ := is_v gg5
  obtain rfl : w1 = (.int i1) := Option.some.inj ei1
  obtain ⟨i2, ei2⟩ := is_v gg7
  obtain rfl : w2 = (.int i2) := Option.some.inj ei2
  obtain ⟨i3, ei3⟩ := is_v gg9
  obtain rfl : w3 = (.int i3) := Option.some.inj ei3
  obtain ⟨i4, ei4⟩ := is_v gg11
  obtain rfl : w4 = (.int i4) := Option.some.inj ei4
  obtain ⟨i5, ei5⟩ := is_v gg12
  obtain rfl : w5 = (.int i5) := Option.some.inj ei5
  obtain ⟨nn1, nn2⟩ := and_e hn
  obtain ⟨nn3, nn4⟩ := and_e nn2
  obtain ⟨nn5, nn6⟩ := and_e nn4
  obtain ⟨w_NB, ev_w_NB⟩ := arr_v nn1
  obtain ⟨cl_w_NB, Ar_w_NB⟩ := Arr.start ev_w_NB nn1
  obtain ⟨w_NW, ev_w_NW⟩ := arr_v nn5
  obtain ⟨cl_w_NW, Ar_w_NW⟩ := Arr.start ev_w_NW nn5
  obtain ⟨w_EL, ev_EL⟩ := exa_v (Cond.before_iff.mp (hsets _ (List.mem_of_getElem? (i := 2) rfl)))
  have cx : Cx s w_NB w_NW w_EL := ⟨(Sta.start ev_w_NB (Or.inr ⟨(own_w hw 85 rfl), (own_w hw 91 rfl)⟩)), (Sta.start ev_w_NW (Or.inr ⟨(own_w hw 85 rfl), (own_w hw 95 rfl)⟩)), (Sta.start ev_EL (Or.inl (hsets _ (List.mem_of_getElem? (i := 1) rfl))))⟩
  obtain ⟨n, o, h1, h2, h3, _, L, rfl, ⟨rfl, N⟩, hq⟩ := rm0 l s _ hw tables_1 cx i0 i1 i2 i3 i4 i5 s.heap s.heap.size (Old.start s)  p e ha hc hk s m _ below hf ((Spec.applies_iff_loose hf).mp happ).1 ⟨rfl, State.Warmed39.refl s, rfl⟩ trivial
  refine ⟨n, _, h1, h2, h3, hpost _ _ _ _ _ _ ⟨Cond.after_iff.mpr rfl, Cond.after_iff.mpr (eq_i res_at (Term.int_eval (1)) rfl), trivial⟩ ⟨hq.1, hq.2.1, (hq.2.2.sift fun y hy => Or.inr (N y hy)).mono (by decide) (by decide)⟩⟩
theorem main_1_1 : Claimed_1_1 := comes_1 fun _ _ _ _ _ _ h hF => ⟨h.1, hF⟩
theorem main_1_2 : Claimed_1_2 := comes_1 fun _ _ _ _ _ _ h hF => ⟨h.2.1, hF⟩
end Jvm.Pilot.@@N@@
namespace Jvm.Pilot.@@N@@
open Jvm Jvm.ClassFile Sem Op Lib Jvm.Free Jvm.Stand Jvm.Pilot.@@N@@.Jvm.D
/-! MADE BY PROGRAM (witnessworld.py) out of the Statement's table words and the real class files: 30 classes; the members and pool entries that the words name. The judged class is class 1, her method 2. -/
namespace start1
open Jvm.ClassFile
def u (s : String) : CpInfo := .utf8 (stringToUtf16 s)
/-- a pool by its gaps: so many unusable entries, then the entry; so many at the end -/
def gap : Nat → List CpInfo → List CpInfo
  | 0, r => r
  | n + 1, r => .unusable :: gap n r
def poolList (es : List (Nat × CpInfo)) (last : Nat) : List CpInfo := es.foldr (fun e r => gap e.1 (e.2 :: r)) (gap last [])
def pool (es : List (Nat × CpInfo)) (last : Nat) : Array CpInfo := ⟨poolList es last⟩
def fileOf (pool : Array CpInfo) (this : Nat) (attrs : Array Attribute := #[]) (ms : Array MethodInfo := #[]) (fl : Nat := 33) (sup : Nat := 0) (ifs : Array Nat := #[]) (fds : Array FieldInfo := #[]) : ClassFile where
  minorVersion := 0
  majorVersion := 65
  constantPool := pool
  accessFlags := fl
  thisClass := this
  superClass := sup
  interfaces := ifs
  fields := fds
  methods := ms
  attributes := attrs
def plain (name : String) (sup : Option ClassId) : Class where
  name := name
  kind := .ordinary
  loader := none
  accessFlags := 33
  super := sup
  interfaces := #[]
  cf := none
  fields := #[]
  methods := #[]
  instanceTypes := #[]
  staticTypes := #[]
  resolved := #[]
  callSites := []
  init := .initialized
  statics := none
  mirror := none

def pool0 : Array CpInfo := pool [(5, u "<init>"), (0, u "()V"), (1, .class_ 10), (1, u "java/lang/Object")] 113

def k0c0 : Code := { maxStack := 0, maxLocals := 1, code := object_method_1_code, exceptionTable := #[], attributes := #[] }
def k0m0 : Method := { name := "<init>", desc := "()V", sig := { parameters := [], returnType := none }, accessFlags := 1, code := some k0c0 }
/-- java/lang/Object -/
def k0 : Class := { plain "java/lang/Object" none with
  accessFlags := 33
  interfaces := #[]
  cf := some (fileOf pool0 8 #[] #[{ accessFlags := 1, nameIndex := 5, descriptorIndex := 6, attributes := #[] }] 33 0 #[] #[])
  fields := #[]
  methods := #[k0m0]
  instanceTypes := #[]
  staticTypes := #[]
  resolved := Array.replicate 124 none
  statics := none }

def pool1 : Array CpInfo := pool [(2, .class_ 4), (0, .nameAndType 5 6), (0, u "java/lang/Object"), (0, u "<init>"), (0, u "()V"), (0, .class_ 8), (0, u "com/example/pointward/pointward/pointsto/ConstraintGraph"), (0, .methodref 7 3), (0, .integer 2147483647), (0, .methodref 12 13), (0, .class_ 14), (0, .nameAndType 15 16), (0, u "com/example/pointward/pointward/pointsto/ConstraintGraphExistingFieldPinLaw"), (0, u "pickSite"), (0, u "(IIII)I"), (0, .methodref 7 18), (0, .nameAndType 19 20), (0, u "existingField"), (0, u "(II)Lcom/example/pointward/pointward/pointsto/ConstraintGraph$Node;"), (0, .methodref 7 22), (0, .nameAndType 23 20), (0, u "field"), (3, u "law"), (0, u "(IIIIII)Z")] 6

def k1m0 : Method := { name := "<init>", desc := "()V", sig := { parameters := [], returnType := none }, accessFlags := 1, code := none }
def k1c1 : Code := { maxStack := 2, maxLocals := 4, code := method_2_code, exceptionTable := #[], attributes := #[] }
def k1m1 : Method := { name := "pickSite", desc := "(IIII)I", sig := { parameters := [.int, .int, .int, .int], returnType := some .int }, accessFlags := 10, code := some k1c1 }
def k1c2 : Code := { maxStack := 4, maxLocals := 22, code := code, exceptionTable := #[], attributes := #[] }
def k1m2 : Method := { name := "law", desc := "(IIIIII)Z", sig := { parameters := [.int, .int, .int, .int, .int, .int], returnType := some .boolean }, accessFlags := 9, code := some k1c2 }
/-- com/example/pointward/pointward/pointsto/ConstraintGraphExistingFieldPinLaw -/
def k1 : Class := { plain "com/example/pointward/pointward/pointsto/ConstraintGraphExistingFieldPinLaw" (some 0) with
  accessFlags := 49
  interfaces := #[]
  cf := some (fileOf pool1 12 #[] #[{ accessFlags := 1, nameIndex := 5, descriptorIndex := 6, attributes := #[] }, { accessFlags := 10, nameIndex := 15, descriptorIndex := 16, attributes := #[] }, { accessFlags := 9, nameIndex := 27, descriptorIndex := 28, attributes := #[] }] 49 2 #[] #[])
  fields := #[]
  methods := #[k1m0, k1m1, k1m2]
  instanceTypes := #[]
  staticTypes := #[]
  resolved := Array.replicate 35 none
  statics := none }

def pool2 : Array CpInfo := pool [(1, .methodref 2 3), (0, .class_ 4), (0, .nameAndType 5 6), (0, u "java/lang/Object"), (0, u "<init>"), (0, u "()V"), (0, .class_ 8), (0, u "java/util/ArrayDeque"), (0, .methodref 7 3), (0, .fieldref 11 12), (0, .class_ 13), (0, .nameAndType 14 15), (0, u "com/example/pointward/pointward/pointsto/ConstraintGraph"), (0, u "worklist"), (0, u "Ljava/util/ArrayDeque;"), (0, .class_ 17), (0, u "com/example/pointward/pointward/pointsto/LongTable"), (0, .methodref 16 3), (0, .fieldref 11 20), (0, .nameAndType 21 22), (0, u "fields"), (0, u "Lcom/example/pointward/pointward/pointsto/LongTable;"), (0, .fieldref 11 24), (0, .nameAndType 25 22), (0, u "edges"), (0, .class_ 27), (0, u "com/example/pointward/pointward/pointsto/ConstraintGraph$Node"), (0, .fieldref 11 29), (0, .nameAndType 30 31), (0, u "nodeCount"), (0, u "I"), (0, .methodref 26 33), (0, .nameAndType 5 34), (0, u "(I)V"), (0, .methodref 16 36), (0, .nameAndType 37 38), (0, u "get"), (0, u "(J)Ljava/lang/Object;"), (0, .methodref 11 40), (0, .nameAndType 41 42), (0, u "newNode"), (0, u "()Lcom/example/pointward/pointward/pointsto/ConstraintGraph$Node;"), (0, .methodref 16 44), (0, .nameAndType 45 46), (0, u "put"), (0, u "(JLjava/lang/Object;)V"), (53, .class_ 102), (1, u "com/example/pointward/pointward/pointsto/ConstraintGraph$SiteListener"), (22, u "field"), (0, u "(II)Lcom/example/pointward/pointward/pointsto/ConstraintGraph$Node;"), (1, u "existingField")] 15

def k2c0 : Code := { maxStack := 3, maxLocals := 1, code := prog_13_method_1_code, exceptionTable := #[], attributes := #[] }
def k2m0 : Method := { name := "<init>", desc := "()V", sig := { parameters := [], returnType := none }, accessFlags := 0, code := some k2c0 }
def k2c1 : Code := { maxStack := 6, maxLocals := 1, code := prog_13_method_2_code, exceptionTable := #[], attributes := #[] }
def k2m1 : Method := { name := "newNode", desc := "()Lcom/example/pointward/pointward/pointsto/ConstraintGraph$Node;", sig := { parameters := [], returnType := some (.object "com/example/pointward/pointward/pointsto/ConstraintGraph$Node") }, accessFlags := 0, code := some k2c1 }
def k2c2 : Code := { maxStack := 4, maxLocals := 6, code := prog_13_method_3_code, exceptionTable := #[], attributes := #[] }
def k2m2 : Method := { name := "field", desc := "(II)Lcom/example/pointward/pointward/pointsto/ConstraintGraph$Node;", sig := { parameters := [.int, .int], returnType := some (.object "com/example/pointward/pointward/pointsto/ConstraintGraph$Node") }, accessFlags := 0, code := some k2c2 }
def k2c3 : Code := { maxStack := 5, maxLocals := 3, code := prog_13_method_4_code, exceptionTable := #[], attributes := #[] }
def k2m3 : Method := { name := "existingField", desc := "(II)Lcom/example/pointward/pointward/pointsto/ConstraintGraph$Node;", sig := { parameters := [.int, .int], returnType := some (.object "com/example/pointward/pointward/pointsto/ConstraintGraph$Node") }, accessFlags := 0, code := some k2c3 }
/-- com/example/pointward/pointward/pointsto/ConstraintGraph -/
def k2 : Class := { plain "com/example/pointward/pointward/pointsto/ConstraintGraph" (some 0) with
  accessFlags := 48
  interfaces := #[]
  cf := some (fileOf pool2 11 #[.nestMembers #[26, 100]] #[{ accessFlags := 0, nameIndex := 5, descriptorIndex := 6, attributes := #[] }, { accessFlags := 0, nameIndex := 41, descriptorIndex := 42, attributes := #[] }, { accessFlags := 0, nameIndex := 125, descriptorIndex := 126, attributes := #[] }, { accessFlags := 0, nameIndex := 128, descriptorIndex := 126, attributes := #[] }] 48 2 #[] #[{ accessFlags := 18, nameIndex := 14, descriptorIndex := 15, attributes := #[] }, { accessFlags := 18, nameIndex := 21, descriptorIndex := 22, attributes := #[] }, { accessFlags := 18, nameIndex := 25, descriptorIndex := 22, attributes := #[] }, { accessFlags := 2, nameIndex := 30, descriptorIndex := 31, attributes := #[] }])
  fields := #[{ name := "worklist", type := (.object "java/util/ArrayDeque"), accessFlags := 18, slot := 0, constantValue := 0 }, { name := "fields", type := (.object "com/example/pointward/pointward/pointsto/LongTable"), accessFlags := 18, slot := 1, constantValue := 0 }, { name := "edges", type := (.object "com/example/pointward/pointward/pointsto/LongTable"), accessFlags := 18, slot := 2, constantValue := 0 }, { name := "nodeCount", type := .int, accessFlags := 2, slot := 3, constantValue := 0 }]
  methods := #[k2m0, k2m1, k2m2, k2m3]
  instanceTypes := #[(.object "java/util/ArrayDeque"), (.object "com/example/pointward/pointward/pointsto/LongTable"), (.object "com/example/pointward/pointward/pointsto/LongTable"), .int]
  staticTypes := #[]
  resolved := ((Array.replicate 144 none).setIfInBounds 26 (some (.cls 13))).setIfInBounds 32 (some (.method ⟨13, 0⟩))
  statics := none }

def pool3 : Array CpInfo := pool [(8, .class_ 10), (1, u "java/lang/Iterable"), (24, .class_ 36), (0, u "java/lang/Object")] 25

/-- java/lang/Iterable -/
def k3 : Class := { plain "java/lang/Iterable" (some 0) with
  accessFlags := 1537
  interfaces := #[]
  cf := some (fileOf pool3 8 #[] #[] 1537 35 #[] #[])
  fields := #[]
  methods := #[]
  instanceTypes := #[]
  staticTypes := #[]
  resolved := Array.replicate 62 none
  statics := none }

def pool4 : Array CpInfo := pool [(10, .class_ 12), (1, u "java/util/Collection"), (47, .class_ 61), (0, u "java/lang/Object"), (0, .class_ 63), (0, u "java/lang/Iterable")] 51

/-- java/util/Collection -/
def k4 : Class := { plain "java/util/Collection" (some 0) with
  accessFlags := 1537
  interfaces := #[3]
  cf := some (fileOf pool4 10 #[] #[] 1537 60 #[62] #[])
  fields := #[]
  methods := #[]
  instanceTypes := #[]
  staticTypes := #[]
  resolved := Array.replicate 115 none
  statics := none }

def pool5 : Array CpInfo := pool [(1, .methodref 2 3), (0, .class_ 4), (0, .nameAndType 5 6), (0, u "java/lang/Object"), (0, u "<init>"), (0, u "()V"), (1, .class_ 10), (1, u "java/util/AbstractCollection"), (66, .class_ 78), (0, u "java/util/Collection")] 81

def k5c0 : Code := { maxStack := 1, maxLocals := 1, code := jdk_22_method_1_code, exceptionTable := #[], attributes := #[] }
def k5m0 : Method := { name := "<init>", desc := "()V", sig := { parameters := [], returnType := none }, accessFlags := 4, code := some k5c0 }
/-- java/util/AbstractCollection -/
def k5 : Class := { plain "java/util/AbstractCollection" (some 0) with
  accessFlags := 1057
  interfaces := #[4]
  cf := some (fileOf pool5 8 #[] #[{ accessFlags := 4, nameIndex := 5, descriptorIndex := 6, attributes := #[] }] 1057 2 #[77] #[])
  fields := #[]
  methods := #[k5m0]
  instanceTypes := #[]
  staticTypes := #[]
  resolved := Array.replicate 160 none
  statics := none }

def pool6 : Array CpInfo := pool [(1, .class_ 2), (0, u "java/util/Queue"), (0, .class_ 4), (0, u "java/lang/Object"), (0, .class_ 6), (0, u "java/util/Collection")] 14

/-- java/util/Queue -/
def k6 : Class := { plain "java/util/Queue" (some 0) with
  accessFlags := 1537
  interfaces := #[4]
  cf := some (fileOf pool6 1 #[] #[] 1537 3 #[5] #[])
  fields := #[]
  methods := #[]
  instanceTypes := #[]
  staticTypes := #[]
  resolved := Array.replicate 21 none
  statics := none }

def pool7 : Array CpInfo := pool [(8, .class_ 10), (1, u "java/util/SequencedCollection"), (15, .class_ 27), (0, u "java/lang/Object"), (0, .class_ 29), (0, u "java/util/Collection")] 27

/-- java/util/SequencedCollection -/
def k7 : Class := { plain "java/util/SequencedCollection" (some 0) with
  accessFlags := 1537
  interfaces := #[4]
  cf := some (fileOf pool7 8 #[] #[] 1537 26 #[28] #[])
  fields := #[]
  methods := #[]
  instanceTypes := #[]
  staticTypes := #[]
  resolved := Array.replicate 57 none
  statics := none }

def pool8 : Array CpInfo := pool [(8, .class_ 10), (1, u "java/util/Deque"), (2, .class_ 14), (0, u "java/lang/Object"), (0, .class_ 16), (0, u "java/util/Queue"), (0, .class_ 18), (0, u "java/util/SequencedCollection")] 51

/-- java/util/Deque -/
def k8 : Class := { plain "java/util/Deque" (some 0) with
  accessFlags := 1537
  interfaces := #[6, 7]
  cf := some (fileOf pool8 8 #[] #[] 1537 13 #[15, 17] #[])
  fields := #[]
  methods := #[]
  instanceTypes := #[]
  staticTypes := #[]
  resolved := Array.replicate 70 none
  statics := none }

def pool9 : Array CpInfo := pool [(1, .class_ 2), (0, u "java/lang/Cloneable"), (0, .class_ 4), (0, u "java/lang/Object")] 2

/-- java/lang/Cloneable -/
def k9 : Class := { plain "java/lang/Cloneable" (some 0) with
  accessFlags := 1537
  interfaces := #[]
  cf := some (fileOf pool9 1 #[] #[] 1537 3 #[] #[])
  fields := #[]
  methods := #[]
  instanceTypes := #[]
  staticTypes := #[]
  resolved := Array.replicate 7 none
  statics := none }

def pool10 : Array CpInfo := pool [(1, .class_ 2), (0, u "java/io/Serializable"), (0, .class_ 4), (0, u "java/lang/Object")] 2

/-- java/io/Serializable -/
def k10 : Class := { plain "java/io/Serializable" (some 0) with
  accessFlags := 1537
  interfaces := #[]
  cf := some (fileOf pool10 1 #[] #[] 1537 3 #[] #[])
  fields := #[]
  methods := #[]
  instanceTypes := #[]
  staticTypes := #[]
  resolved := Array.replicate 7 none
  statics := none }

def pool11 : Array CpInfo := pool [(3, .fieldref 4 5), (0, .class_ 6), (0, .nameAndType 7 8), (0, u "java/util/ArrayDeque"), (0, u "elements"), (0, u "[Ljava/lang/Object;"), (13, u "tail"), (0, u "I"), (2, u "head"), (12, u "<init>"), (2, .methodref 43 44), (0, .class_ 45), (0, .nameAndType 39 46), (0, u "java/util/AbstractCollection"), (0, u "()V"), (0, .class_ 48), (0, u "java/lang/Object"), (82, .class_ 132), (0, u "java/util/ArrayDeque$DeqIterator"), (3, .class_ 137), (0, u "java/util/ArrayDeque$DescendingIterator"), (1, .class_ 140), (0, u "java/util/ArrayDeque$DeqSpliterator"), (137, .class_ 279), (0, u "java/util/Deque"), (0, .class_ 281), (0, u "java/lang/Cloneable"), (0, .class_ 283), (0, u "java/io/Serializable"), (0, u "MAX_ARRAY_SIZE"), (1, u "serialVersionUID"), (0, u "J")] 150

def k11c0 : Code := { maxStack := 2, maxLocals := 1, code := jdk_21_method_3_code, exceptionTable := #[], attributes := #[] }
def k11m0 : Method := { name := "<init>", desc := "()V", sig := { parameters := [], returnType := none }, accessFlags := 1, code := some k11c0 }
/-- java/util/ArrayDeque -/
def k11 : Class := { plain "java/util/ArrayDeque" (some 5) with
  accessFlags := 33
  interfaces := #[8, 9, 10]
  cf := some (fileOf pool11 4 #[.nestMembers #[139, 136, 131]] #[{ accessFlags := 1, nameIndex := 39, descriptorIndex := 46, attributes := #[] }] 33 43 #[278, 280, 282] #[{ accessFlags := 128, nameIndex := 7, descriptorIndex := 8, attributes := #[] }, { accessFlags := 128, nameIndex := 26, descriptorIndex := 23, attributes := #[] }, { accessFlags := 128, nameIndex := 22, descriptorIndex := 23, attributes := #[] }, { accessFlags := 26, nameIndex := 284, descriptorIndex := 23, attributes := #[] }, { accessFlags := 26, nameIndex := 286, descriptorIndex := 287, attributes := #[] }])
  fields := #[{ name := "elements", type := (.array (.object "java/lang/Object")), accessFlags := 128, slot := 0, constantValue := 0 }, { name := "head", type := .int, accessFlags := 128, slot := 1, constantValue := 0 }, { name := "tail", type := .int, accessFlags := 128, slot := 2, constantValue := 0 }, { name := "MAX_ARRAY_SIZE", type := .int, accessFlags := 26, slot := 0, constantValue := 0 }, { name := "serialVersionUID", type := .long, accessFlags := 26, slot := 1, constantValue := 0 }]
  methods := #[k11m0]
  instanceTypes := #[(.array (.object "java/lang/Object")), .int, .int]
  staticTypes := #[.int, .long]
  resolved := Array.replicate 438 none
  statics := none }

def pool12 : Array CpInfo := pool [(1, .methodref 2 3), (0, .class_ 4), (0, .nameAndType 5 6), (0, u "java/lang/Object"), (0, u "<init>"), (0, u "()V"), (0, .fieldref 8 9), (0, .class_ 10), (0, .nameAndType 11 12), (0, u "com/example/pointward/pointward/pointsto/LongTable"), (0, u "keys"), (0, u "[J"), (0, .fieldref 8 14), (0, .nameAndType 15 16), (0, u "values"), (0, u "[Ljava/lang/Object;"), (0, .methodref 8 18), (0, .nameAndType 19 20), (0, u "slot"), (0, u "(JI)I"), (0, .fieldref 8 22), (0, .nameAndType 23 24), (0, u "size"), (0, u "I"), (9, .long 11400714819323198485), (3, u "get"), (0, u "(J)Ljava/lang/Object;"), (3, u "put"), (0, u "(JLjava/lang/Object;)V")] 6

def k12c0 : Code := { maxStack := 2, maxLocals := 1, code := prog_17_method_1_code, exceptionTable := #[], attributes := #[] }
def k12m0 : Method := { name := "<init>", desc := "()V", sig := { parameters := [], returnType := none }, accessFlags := 0, code := some k12c0 }
def k12c1 : Code := { maxStack := 4, maxLocals := 5, code := prog_17_method_2_code, exceptionTable := #[], attributes := #[] }
def k12m1 : Method := { name := "get", desc := "(J)Ljava/lang/Object;", sig := { parameters := [.long], returnType := some (.object "java/lang/Object") }, accessFlags := 0, code := some k12c1 }
def k12c2 : Code := { maxStack := 4, maxLocals := 6, code := prog_17_method_3_code, exceptionTable := #[], attributes := #[] }
def k12m2 : Method := { name := "put", desc := "(JLjava/lang/Object;)V", sig := { parameters := [.long, (.object "java/lang/Object")], returnType := none }, accessFlags := 0, code := some k12c2 }
def k12c3 : Code := { maxStack := 5, maxLocals := 5, code := prog_17_method_5_code, exceptionTable := #[], attributes := #[] }
def k12m3 : Method := { name := "slot", desc := "(JI)I", sig := { parameters := [.long, .int], returnType := some .int }, accessFlags := 10, code := some k12c3 }
/-- com/example/pointward/pointward/pointsto/LongTable -/
def k12 : Class := { plain "com/example/pointward/pointward/pointsto/LongTable" (some 0) with
  accessFlags := 48
  interfaces := #[]
  cf := some (fileOf pool12 8 #[] #[{ accessFlags := 0, nameIndex := 5, descriptorIndex := 6, attributes := #[] }, { accessFlags := 0, nameIndex := 38, descriptorIndex := 39, attributes := #[] }, { accessFlags := 0, nameIndex := 43, descriptorIndex := 44, attributes := #[] }, { accessFlags := 10, nameIndex := 19, descriptorIndex := 20, attributes := #[] }] 48 2 #[] #[{ accessFlags := 2, nameIndex := 11, descriptorIndex := 12, attributes := #[] }, { accessFlags := 2, nameIndex := 15, descriptorIndex := 16, attributes := #[] }, { accessFlags := 2, nameIndex := 23, descriptorIndex := 24, attributes := #[] }])
  fields := #[{ name := "keys", type := (.array .long), accessFlags := 2, slot := 0, constantValue := 0 }, { name := "values", type := (.array (.object "java/lang/Object")), accessFlags := 2, slot := 1, constantValue := 0 }, { name := "size", type := .int, accessFlags := 2, slot := 2, constantValue := 0 }]
  methods := #[k12m0, k12m1, k12m2, k12m3]
  instanceTypes := #[(.array .long), (.array (.object "java/lang/Object")), .int]
  staticTypes := #[]
  resolved := Array.replicate 51 none
  statics := none }

def pool13 : Array CpInfo := pool [(1, .methodref 2 3), (0, .class_ 4), (0, .nameAndType 5 6), (0, u "java/lang/Object"), (0, u "<init>"), (0, u "()V"), (0, .class_ 8), (0, u "com/example/pointward/pointward/pointsto/SiteSet"), (0, .methodref 7 3), (0, .fieldref 11 12), (0, .class_ 13), (0, .nameAndType 14 15), (0, u "com/example/pointward/pointward/pointsto/ConstraintGraph$Node"), (0, u "sites"), (0, u "Lcom/example/pointward/pointward/pointsto/SiteSet;"), (0, .class_ 17), (0, u "java/util/ArrayList"), (0, .methodref 16 19), (0, .nameAndType 5 20), (0, u "(I)V"), (0, .fieldref 11 22), (0, .nameAndType 23 24), (0, u "successors"), (0, u "Ljava/util/List;"), (0, .interfaceMethodref 26 27), (0, .class_ 28), (0, .nameAndType 29 30), (0, u "java/util/List"), (0, u "of"), (0, u "()Ljava/util/List;"), (0, .fieldref 11 32), (0, .nameAndType 33 24), (0, u "listeners"), (0, .fieldref 11 35), (0, .nameAndType 36 37), (0, u "id"), (0, u "I"), (7, u "pending"), (5, .class_ 52), (0, u "com/example/pointward/pointward/pointsto/ConstraintGraph")] 5

def k13c0 : Code := { maxStack := 4, maxLocals := 2, code := prog_14_method_1_code, exceptionTable := #[], attributes := #[] }
def k13m0 : Method := { name := "<init>", desc := "(I)V", sig := { parameters := [.int], returnType := none }, accessFlags := 2, code := some k13c0 }
/-- com/example/pointward/pointward/pointsto/ConstraintGraph$Node -/
def k13 : Class := { plain "com/example/pointward/pointward/pointsto/ConstraintGraph$Node" (some 0) with
  accessFlags := 48
  interfaces := #[]
  cf := some (fileOf pool13 11 #[.nestHost 51] #[{ accessFlags := 2, nameIndex := 5, descriptorIndex := 20, attributes := #[] }] 48 2 #[] #[{ accessFlags := 18, nameIndex := 36, descriptorIndex := 37, attributes := #[] }, { accessFlags := 18, nameIndex := 14, descriptorIndex := 15, attributes := #[] }, { accessFlags := 18, nameIndex := 23, descriptorIndex := 24, attributes := #[] }, { accessFlags := 2, nameIndex := 33, descriptorIndex := 24, attributes := #[] }, { accessFlags := 2, nameIndex := 45, descriptorIndex := 15, attributes := #[] }])
  fields := #[{ name := "id", type := .int, accessFlags := 18, slot := 0, constantValue := 0 }, { name := "sites", type := (.object "com/example/pointward/pointward/pointsto/SiteSet"), accessFlags := 18, slot := 1, constantValue := 0 }, { name := "successors", type := (.object "java/util/List"), accessFlags := 18, slot := 2, constantValue := 0 }, { name := "listeners", type := (.object "java/util/List"), accessFlags := 2, slot := 3, constantValue := 0 }, { name := "pending", type := (.object "com/example/pointward/pointward/pointsto/SiteSet"), accessFlags := 2, slot := 4, constantValue := 0 }]
  methods := #[k13m0]
  instanceTypes := #[.int, (.object "com/example/pointward/pointward/pointsto/SiteSet"), (.object "java/util/List"), (.object "java/util/List"), (.object "com/example/pointward/pointward/pointsto/SiteSet")]
  staticTypes := #[]
  resolved := Array.replicate 58 none
  statics := none }

def pool14 : Array CpInfo := pool [(1, .methodref 2 3), (0, .class_ 4), (0, .nameAndType 5 6), (0, u "java/lang/Object"), (0, u "<init>"), (0, u "()V"), (0, .fieldref 8 9), (0, .class_ 10), (0, .nameAndType 11 12), (0, u "com/example/pointward/pointward/pointsto/SiteSet"), (0, u "NO_BLOCKS"), (0, u "[I"), (0, .fieldref 8 14), (0, .nameAndType 15 12), (0, u "blocks"), (0, .fieldref 8 17), (0, .nameAndType 18 19), (0, u "NO_WORDS"), (0, u "[J"), (0, .fieldref 8 21), (0, .nameAndType 22 19), (0, u "words"), (2, u "used"), (0, u "I"), (48, u "BLOCK_SHIFT")] 17

def k14c0 : Code := { maxStack := 2, maxLocals := 1, code := prog_18_method_1_code, exceptionTable := #[], attributes := #[] }
def k14m0 : Method := { name := "<init>", desc := "()V", sig := { parameters := [], returnType := none }, accessFlags := 0, code := some k14c0 }
/-- com/example/pointward/pointward/pointsto/SiteSet -/
def k14 : Class := { plain "com/example/pointward/pointward/pointsto/SiteSet" (some 0) with
  accessFlags := 48
  interfaces := #[]
  cf := some (fileOf pool14 8 #[] #[{ accessFlags := 0, nameIndex := 5, descriptorIndex := 6, attributes := #[] }] 48 2 #[] #[{ accessFlags := 26, nameIndex := 75, descriptorIndex := 26, attributes := #[] }, { accessFlags := 26, nameIndex := 11, descriptorIndex := 12, attributes := #[] }, { accessFlags := 26, nameIndex := 18, descriptorIndex := 19, attributes := #[] }, { accessFlags := 2, nameIndex := 15, descriptorIndex := 12, attributes := #[] }, { accessFlags := 2, nameIndex := 22, descriptorIndex := 19, attributes := #[] }, { accessFlags := 2, nameIndex := 25, descriptorIndex := 26, attributes := #[] }])
  fields := #[{ name := "BLOCK_SHIFT", type := .int, accessFlags := 26, slot := 0, constantValue := 0 }, { name := "NO_BLOCKS", type := (.array .int), accessFlags := 26, slot := 1, constantValue := 0 }, { name := "NO_WORDS", type := (.array .long), accessFlags := 26, slot := 2, constantValue := 0 }, { name := "blocks", type := (.array .int), accessFlags := 2, slot := 0, constantValue := 0 }, { name := "words", type := (.array .long), accessFlags := 2, slot := 1, constantValue := 0 }, { name := "used", type := .int, accessFlags := 2, slot := 2, constantValue := 0 }]
  methods := #[k14m0]
  instanceTypes := #[(.array .int), (.array .long), .int]
  staticTypes := #[.int, (.array .int), (.array .long)]
  resolved := Array.replicate 93 none
  statics := some 0 }

def pool15 : Array CpInfo := pool [(8, .class_ 10), (1, u "java/util/List"), (77, u "of"), (1, .fieldref 91 92), (0, .class_ 93), (0, .nameAndType 94 95), (0, u "java/util/ImmutableCollections"), (0, u "EMPTY_LIST"), (0, u "Ljava/util/ImmutableCollections$ListN;"), (7, .class_ 104), (0, u "java/lang/Object"), (14, u "()Ljava/util/List;"), (0, .class_ 121), (0, u "java/util/SequencedCollection")] 129

def k15c0 : Code := { maxStack := 1, maxLocals := 0, code := jdk_40_method_36_code, exceptionTable := #[], attributes := #[] }
def k15m0 : Method := { name := "of", desc := "()Ljava/util/List;", sig := { parameters := [], returnType := some (.object "java/util/List") }, accessFlags := 9, code := some k15c0 }
/-- java/util/List -/
def k15 : Class := { plain "java/util/List" (some 0) with
  accessFlags := 1537
  interfaces := #[7]
  cf := some (fileOf pool15 8 #[] #[{ accessFlags := 9, nameIndex := 88, descriptorIndex := 119, attributes := #[] }] 1537 103 #[120] #[])
  fields := #[]
  methods := #[k15m0]
  instanceTypes := #[]
  staticTypes := #[]
  resolved := Array.replicate 251 none
  statics := none }

def pool16 : Array CpInfo := pool [(1, .methodref 2 3), (0, .class_ 4), (0, .nameAndType 5 6), (0, u "java/util/AbstractCollection"), (0, u "<init>"), (0, u "()V"), (0, .fieldref 8 9), (0, .class_ 10), (0, .nameAndType 11 12), (0, u "java/util/AbstractList"), (0, u "modCount"), (0, u "I"), (64, .class_ 78), (0, u "java/util/AbstractList$Itr"), (3, .class_ 83), (0, u "java/util/AbstractList$ListItr"), (9, .class_ 94), (0, u "java/util/AbstractList$RandomAccessSubList"), (3, .class_ 99), (0, u "java/util/AbstractList$SubList"), (33, .class_ 134), (0, u "java/util/List"), (73, .class_ 209), (0, u "java/util/AbstractList$SubList$1"), (0, .class_ 211), (0, u "java/util/AbstractList$RandomAccessSpliterator")] 6

def k16c0 : Code := { maxStack := 2, maxLocals := 1, code := jdk_39_method_1_code, exceptionTable := #[], attributes := #[] }
def k16m0 : Method := { name := "<init>", desc := "()V", sig := { parameters := [], returnType := none }, accessFlags := 4, code := some k16c0 }
/-- java/util/AbstractList -/
def k16 : Class := { plain "java/util/AbstractList" (some 5) with
  accessFlags := 1057
  interfaces := #[15]
  cf := some (fileOf pool16 8 #[.nestMembers #[93, 98, 208, 210, 82, 77]] #[{ accessFlags := 4, nameIndex := 5, descriptorIndex := 6, attributes := #[] }] 1057 2 #[133] #[{ accessFlags := 132, nameIndex := 11, descriptorIndex := 12, attributes := #[] }])
  fields := #[{ name := "modCount", type := .int, accessFlags := 132, slot := 0, constantValue := 0 }]
  methods := #[k16m0]
  instanceTypes := #[.int]
  staticTypes := #[]
  resolved := Array.replicate 218 none
  statics := none }

def pool17 : Array CpInfo := pool [(1, .class_ 2), (0, u "java/util/RandomAccess"), (0, .class_ 4), (0, u "java/lang/Object")] 2

/-- java/util/RandomAccess -/
def k17 : Class := { plain "java/util/RandomAccess" (some 0) with
  accessFlags := 1537
  interfaces := #[]
  cf := some (fileOf pool17 1 #[] #[] 1537 3 #[] #[])
  fields := #[]
  methods := #[]
  instanceTypes := #[]
  staticTypes := #[]
  resolved := Array.replicate 7 none
  statics := none }

def pool18 : Array CpInfo := pool [(1, .methodref 2 3), (0, .class_ 4), (0, .nameAndType 5 6), (0, u "java/util/AbstractList"), (0, u "<init>"), (0, u "()V"), (0, .class_ 8), (0, u "java/lang/Object"), (0, .fieldref 10 11), (0, .class_ 12), (0, .nameAndType 13 14), (0, u "java/util/ArrayList"), (0, u "elementData"), (0, u "[Ljava/lang/Object;"), (2, u "EMPTY_ELEMENTDATA"), (23, u "DEFAULTCAPACITY_EMPTY_ELEMENTDATA"), (8, u "size"), (0, u "I"), (86, u "(I)V"), (9, .class_ 149), (0, u "java/util/List"), (112, .class_ 263), (0, u "java/util/ArrayList$ListItr"), (3, .class_ 268), (0, u "java/util/ArrayList$Itr"), (7, .class_ 277), (0, u "java/util/ArrayList$SubList"), (12, .class_ 291), (0, u "java/util/ArrayList$ArrayListSpliterator"), (37, .class_ 330), (0, u "java/util/RandomAccess"), (0, .class_ 332), (0, u "java/lang/Cloneable"), (0, .class_ 334), (0, u "java/io/Serializable"), (0, u "serialVersionUID"), (0, u "J"), (3, u "DEFAULT_CAPACITY"), (159, .class_ 501), (0, u "java/util/ArrayList$SubList$2"), (0, .class_ 503), (0, u "java/util/ArrayList$SubList$1")] 5

def k18c0 : Code := { maxStack := 4, maxLocals := 2, code := jdk_38_method_1_code, exceptionTable := #[], attributes := #[] }
def k18m0 : Method := { name := "<init>", desc := "(I)V", sig := { parameters := [.int], returnType := none }, accessFlags := 1, code := some k18c0 }
def k18m1 : Method := { name := "<init>", desc := "()V", sig := { parameters := [], returnType := none }, accessFlags := 1, code := none }
/-- java/util/ArrayList -/
def k18 : Class := { plain "java/util/ArrayList" (some 16) with
  accessFlags := 33
  interfaces := #[15, 17, 9, 10]
  cf := some (fileOf pool18 10 #[.nestMembers #[290, 276, 500, 502, 262, 267]] #[{ accessFlags := 1, nameIndex := 5, descriptorIndex := 138, attributes := #[] }, { accessFlags := 1, nameIndex := 5, descriptorIndex := 6, attributes := #[] }] 33 2 #[148, 329, 331, 333] #[{ accessFlags := 26, nameIndex := 335, descriptorIndex := 336, attributes := #[] }, { accessFlags := 26, nameIndex := 340, descriptorIndex := 51, attributes := #[] }, { accessFlags := 26, nameIndex := 17, descriptorIndex := 14, attributes := #[] }, { accessFlags := 26, nameIndex := 41, descriptorIndex := 14, attributes := #[] }, { accessFlags := 128, nameIndex := 13, descriptorIndex := 14, attributes := #[] }, { accessFlags := 2, nameIndex := 50, descriptorIndex := 51, attributes := #[] }])
  fields := #[{ name := "serialVersionUID", type := .long, accessFlags := 26, slot := 0, constantValue := 0 }, { name := "DEFAULT_CAPACITY", type := .int, accessFlags := 26, slot := 1, constantValue := 0 }, { name := "EMPTY_ELEMENTDATA", type := (.array (.object "java/lang/Object")), accessFlags := 26, slot := 2, constantValue := 0 }, { name := "DEFAULTCAPACITY_EMPTY_ELEMENTDATA", type := (.array (.object "java/lang/Object")), accessFlags := 26, slot := 3, constantValue := 0 }, { name := "elementData", type := (.array (.object "java/lang/Object")), accessFlags := 128, slot := 1, constantValue := 0 }, { name := "size", type := .int, accessFlags := 2, slot := 2, constantValue := 0 }]
  methods := #[k18m0, k18m1]
  instanceTypes := #[.int, (.array (.object "java/lang/Object")), .int]
  staticTypes := #[.long, .int, (.array (.object "java/lang/Object")), (.array (.object "java/lang/Object"))]
  resolved := Array.replicate 509 none
  statics := none }

def pool19 : Array CpInfo := pool [(2, .class_ 4), (1, u "java/lang/Object"), (0, u "<init>"), (0, u "()V"), (3, .class_ 11), (0, u "java/util/ImmutableCollections$List12"), (0, .class_ 13), (0, u "java/util/ImmutableCollections$ListN"), (3, u "Z"), (29, .class_ 49), (1, u "java/util/ImmutableCollections"), (0, u "$assertionsDisabled"), (5, u "[Ljava/lang/Object;"), (5, u "EMPTY_LIST"), (0, u "Ljava/util/ImmutableCollections$ListN;"), (8, u "EMPTY_LIST_NULLS"), (22, u "SALT32L"), (0, u "J"), (2, u "REVERSE"), (6, u "archivedObjects"), (2, u "EMPTY"), (0, u "Ljava/lang/Object;"), (0, .class_ 112), (0, u "java/util/ImmutableCollections$SetN"), (5, u "EMPTY_SET"), (0, u "Ljava/util/ImmutableCollections$SetN;"), (0, .class_ 121), (0, u "java/util/ImmutableCollections$MapN"), (3, u "EMPTY_MAP"), (0, u "Ljava/util/ImmutableCollections$MapN;"), (4, u "EXPAND_FACTOR"), (0, u "I"), (36, .class_ 170), (0, u "java/util/ImmutableCollections$MapN$MapNIterator"), (0, .class_ 172), (0, u "java/util/ImmutableCollections$MapN$1"), (0, .class_ 174), (0, u "java/util/ImmutableCollections$Map1"), (0, .class_ 176), (0, u "java/util/ImmutableCollections$AbstractImmutableMap"), (0, .class_ 178), (0, u "java/util/ImmutableCollections$SetN$SetNIterator"), (0, .class_ 180), (0, u "java/util/ImmutableCollections$Set12"), (0, .class_ 182), (0, u "java/util/ImmutableCollections$Set12$1"), (0, .class_ 184), (0, u "java/util/ImmutableCollections$AbstractImmutableSet"), (0, .class_ 186), (0, u "java/util/ImmutableCollections$SubList"), (0, .class_ 188), (0, u "java/util/ImmutableCollections$ListItr"), (0, .class_ 190), (0, u "java/util/ImmutableCollections$AbstractImmutableList"), (0, .class_ 192), (0, u "java/util/ImmutableCollections$AbstractImmutableCollection"), (0, .class_ 194), (0, u "java/util/ImmutableCollections$Access"), (0, .class_ 196), (0, u "java/util/ImmutableCollections$Access$1")] 16

def k19m0 : Method := { name := "<init>", desc := "()V", sig := { parameters := [], returnType := none }, accessFlags := 2, code := none }
/-- java/util/ImmutableCollections -/
def k19 : Class := { plain "java/util/ImmutableCollections" (some 0) with
  accessFlags := 32
  interfaces := #[]
  cf := some (fileOf pool19 47 #[.nestMembers #[120, 169, 171, 173, 175, 111, 177, 179, 181, 183, 12, 10, 185, 187, 189, 191, 193, 195]] #[{ accessFlags := 2, nameIndex := 5, descriptorIndex := 6, attributes := #[] }] 32 2 #[] #[{ accessFlags := 26, nameIndex := 95, descriptorIndex := 96, attributes := #[] }, { accessFlags := 26, nameIndex := 99, descriptorIndex := 17, attributes := #[] }, { accessFlags := 10, nameIndex := 106, descriptorIndex := 56, attributes := #[] }, { accessFlags := 26, nameIndex := 109, descriptorIndex := 110, attributes := #[] }, { accessFlags := 24, nameIndex := 62, descriptorIndex := 63, attributes := #[] }, { accessFlags := 24, nameIndex := 72, descriptorIndex := 63, attributes := #[] }, { accessFlags := 24, nameIndex := 118, descriptorIndex := 119, attributes := #[] }, { accessFlags := 24, nameIndex := 125, descriptorIndex := 126, attributes := #[] }, { accessFlags := 24, nameIndex := 131, descriptorIndex := 132, attributes := #[] }, { accessFlags := 4120, nameIndex := 50, descriptorIndex := 17, attributes := #[] }])
  fields := #[{ name := "SALT32L", type := .long, accessFlags := 26, slot := 0, constantValue := 0 }, { name := "REVERSE", type := .boolean, accessFlags := 26, slot := 1, constantValue := 0 }, { name := "archivedObjects", type := (.array (.object "java/lang/Object")), accessFlags := 10, slot := 2, constantValue := 0 }, { name := "EMPTY", type := (.object "java/lang/Object"), accessFlags := 26, slot := 3, constantValue := 0 }, { name := "EMPTY_LIST", type := (.object "java/util/ImmutableCollections$ListN"), accessFlags := 24, slot := 4, constantValue := 0 }, { name := "EMPTY_LIST_NULLS", type := (.object "java/util/ImmutableCollections$ListN"), accessFlags := 24, slot := 5, constantValue := 0 }, { name := "EMPTY_SET", type := (.object "java/util/ImmutableCollections$SetN"), accessFlags := 24, slot := 6, constantValue := 0 }, { name := "EMPTY_MAP", type := (.object "java/util/ImmutableCollections$MapN"), accessFlags := 24, slot := 7, constantValue := 0 }, { name := "EXPAND_FACTOR", type := .int, accessFlags := 24, slot := 8, constantValue := 0 }, { name := "$assertionsDisabled", type := .boolean, accessFlags := 4120, slot := 9, constantValue := 0 }]
  methods := #[k19m0]
  instanceTypes := #[]
  staticTypes := #[.long, .boolean, (.array (.object "java/lang/Object")), (.object "java/lang/Object"), (.object "java/util/ImmutableCollections$ListN"), (.object "java/util/ImmutableCollections$ListN"), (.object "java/util/ImmutableCollections$SetN"), (.object "java/util/ImmutableCollections$MapN"), .int, .boolean]
  resolved := Array.replicate 213 none
  statics := some 1 }

def pool20 : Array CpInfo := pool [(2, .class_ 4), (1, u "java/util/AbstractCollection"), (0, u "<init>"), (0, u "()V"), (1, .class_ 10), (1, u "java/util/ImmutableCollections"), (2, .class_ 14), (0, u "java/util/ImmutableCollections$AbstractImmutableCollection")] 41

def k20m0 : Method := { name := "<init>", desc := "()V", sig := { parameters := [], returnType := none }, accessFlags := 0, code := none }
/-- java/util/ImmutableCollections$AbstractImmutableCollection -/
def k20 : Class := { plain "java/util/ImmutableCollections$AbstractImmutableCollection" (some 5) with
  accessFlags := 1056
  interfaces := #[]
  cf := some (fileOf pool20 13 #[.nestHost 8] #[{ accessFlags := 0, nameIndex := 5, descriptorIndex := 6, attributes := #[] }] 1056 2 #[] #[])
  fields := #[]
  methods := #[k20m0]
  instanceTypes := #[]
  staticTypes := #[]
  resolved := Array.replicate 56 none
  statics := none }

def pool21 : Array CpInfo := pool [(2, .class_ 4), (1, u "java/util/ImmutableCollections$AbstractImmutableCollection"), (0, u "<init>"), (0, u "()V"), (1, .class_ 10), (1, u "java/util/ImmutableCollections"), (3, .class_ 16), (1, u "java/util/ImmutableCollections$AbstractImmutableList"), (60, .class_ 78), (0, u "java/util/List"), (45, .class_ 125), (0, u "java/util/RandomAccess")] 70

def k21m0 : Method := { name := "<init>", desc := "()V", sig := { parameters := [], returnType := none }, accessFlags := 0, code := none }
/-- java/util/ImmutableCollections$AbstractImmutableList -/
def k21 : Class := { plain "java/util/ImmutableCollections$AbstractImmutableList" (some 20) with
  accessFlags := 1056
  interfaces := #[15, 17]
  cf := some (fileOf pool21 14 #[.nestHost 8] #[{ accessFlags := 0, nameIndex := 5, descriptorIndex := 6, attributes := #[] }] 1056 2 #[77, 124] #[])
  fields := #[]
  methods := #[k21m0]
  instanceTypes := #[]
  staticTypes := #[]
  resolved := Array.replicate 196 none
  statics := none }

def pool22 : Array CpInfo := pool [(2, .class_ 4), (1, u "java/util/ImmutableCollections$AbstractImmutableList"), (3, .class_ 10), (1, u "java/util/ImmutableCollections$ListN"), (0, u "elements"), (0, u "[Ljava/lang/Object;"), (2, u "allowNulls"), (0, u "Z"), (42, .class_ 60), (0, u "java/io/Serializable"), (53, .class_ 115), (0, u "java/util/ImmutableCollections")] 3

/-- java/util/ImmutableCollections$ListN -/
def k22 : Class := { plain "java/util/ImmutableCollections$ListN" (some 21) with
  accessFlags := 48
  interfaces := #[10]
  cf := some (fileOf pool22 8 #[.nestHost 114] #[] 48 2 #[59] #[{ accessFlags := 18, nameIndex := 11, descriptorIndex := 12, attributes := #[] }, { accessFlags := 18, nameIndex := 15, descriptorIndex := 16, attributes := #[] }])
  fields := #[{ name := "elements", type := (.array (.object "java/lang/Object")), accessFlags := 18, slot := 0, constantValue := 0 }, { name := "allowNulls", type := .boolean, accessFlags := 18, slot := 1, constantValue := 0 }]
  methods := #[]
  instanceTypes := #[(.array (.object "java/lang/Object")), .boolean]
  staticTypes := #[]
  resolved := Array.replicate 119 none
  statics := none }

/-- the primitive byte -/
def k23 : Class := { plain "byte" none with kind := .primitive 'B', accessFlags := 0x411 }
/-- [B -/
def k24 : Class := { plain "[B" (some 0) with kind := .array 23 .byte, interfaces := #[9, 10], accessFlags := 1041 }

/-- the primitive int -/
def k25 : Class := { plain "int" none with kind := .primitive 'I', accessFlags := 0x411 }
/-- [I -/
def k26 : Class := { plain "[I" (some 0) with kind := .array 25 .int, interfaces := #[9, 10], accessFlags := 1041 }

/-- the primitive long -/
def k27 : Class := { plain "long" none with kind := .primitive 'J', accessFlags := 0x411 }
/-- [J -/
def k28 : Class := { plain "[J" (some 0) with kind := .array 27 .long, interfaces := #[9, 10], accessFlags := 1041 }

/-- [Ljava/lang/Object; -/
def k29 : Class := { plain "[Ljava/lang/Object;" (some 0) with kind := .array 0 (.object "java/lang/Object"), interfaces := #[9, 10], accessFlags := 1041 }

def heap : Heap := #[{ cls := 14, slots := #[.int 0, .ref 3, .ref 4], vm := .statics 14 },
  { cls := 19, slots := #[.long 0, .int 0, .null, .null, .ref 5, .null, .null, .null, .int 0, .int 0], vm := .statics 19 },
  { cls := 29, slots := #[], vm := .none },
  { cls := 26, slots := #[], vm := .none },
  { cls := 28, slots := #[], vm := .none },
  { cls := 22, slots := #[.ref 2, .int 0], vm := .none }]
def classes : Array Class := #[k0, k1, k2, k3, k4, k5, k6, k7, k8, k9, k10, k11, k12, k13, k14, k15, k16, k17, k18, k19, k20, k21, k22, k23, k24, k25, k26, k27, k28, k29]
def interned : List (Array UInt16 × Addr) := []
def slotsUsed : Nat := 15
def theMethod : MethodId := ⟨1, 2⟩
def args0 : Array Value := #[.int 5, .int 5, .int 5, .int 5, .int 5, .int 5]
def aboutOver (below : List Frame) : State where
  vm := { classes := classes, interned := interned.toArray }
  heap := heap
  slotsUsed := slotsUsed
  threads := #[{ frames := .invoking theMethod args0 :: below }]
def below0 : List Frame := [.native { method := ⟨0, 0⟩, args := #[] }]
def about1 : State := aboutOver below0
def p0 : Program := .bare "" "" ""
def e0 : Env := launch0.env 0 0 0
theorem w_frames : about1.frames = Frame.invoking theMethod args0 :: below0 := rfl
set_option maxRecDepth 65536 in
theorem w_args : argsFit about1.vm theMethod args0 = true := by decide +kernel
set_option maxRecDepth 65536 in
theorem w_heap : heapFits about1 = true := by decide +kernel
set_option maxRecDepth 65536 in
theorem w_runnable : about1.curStatus? = some .runnable := by decide +kernel
set_option maxRecDepth 65536 in
theorem w_alone : about1.alone = true := by decide +kernel
set_option maxRecDepth 65536 in
theorem w_named : about1.methodNamed? x = some theMethod := by decide +kernel
set_option maxRecDepth 65536 in
theorem w_hears : about1.hears theMethod below0 = true := by decide +kernel
set_option maxRecDepth 65536 in
theorem w_ripe : about1.ripe theMethod args0 below0 = true := by decide +kernel
theorem w_running : about1.status = .running := rfl
set_option maxRecDepth 65536 in
theorem w_room : about1.hasRoom e0.platform room_1 = true :=
  launch0.hasRoom_least _ room_1 (by decide +kernel) (by decide +kernel) (by decide +kernel) (by decide +kernel) (by decide +kernel) (by decide +kernel)
theorem allAtoms_all (ts : List Jvm.Cond) (a : Array Jvm.Value) (st : Jvm.State) : (allAtoms ts).before a st = ts.all (fun c => c.before a st) := by
  induction ts with
  | nil => rfl
  | cons c t ih =>
    show (Jvm.Cond.and c (allAtoms t)).before a st = _
    rw [Jvm.Cond.before_and, ih, List.all_cons]
def words1 : List Jvm.Cond := Jvm.Cond.code x code maxLocals ret :: tables_1
/-- a 'code' word, met by the world's own term for the bytes: nothing is compared byte by byte -/
theorem code_word {y : MethodName} {bytes : ByteArray} {mx : Nat} {rt : Option FieldType} {a : Array Value} {s : State} {m : MethodId} {meth : Method} {c : Code} (h1 : s.methodNamed? y = some m) (h2 : s.vm.method? m = some meth) (h3 : meth.code = some c) (h4 : c.code = bytes)
    (h5 : (c.maxLocals == mx && c.exceptionTable.isEmpty && decide (c.maxStack ≤ mostOperands) && decide (meth.sig.returnType = rt) && !meth.locks && decide (parseMethodDescriptor y.desc = some meth.sig)) = true) : (Jvm.Cond.code y bytes mx rt).before a s = true := by
  simp only [Bool.and_eq_true, beq_iff_eq, Bool.not_eq_true', decide_eq_true_eq] at h5
  obtain ⟨⟨⟨⟨⟨g1, g2⟩, g3⟩, g4⟩, g5⟩, g6⟩ := h5
  simp [Cond.before, Cond.holds, Cond.value, h1, h2, h3, h4, g1, g2, g3, g4, g5, g6]
def isCode : Jvm.Cond → Bool
  | .code _ _ _ _ => true
  | _ => false
theorem all_split {L : List Jvm.Cond} {P : Jvm.Cond → Bool} (h1 : L.all (fun c => isCode c || P c) = true) (h2 : ∀ c ∈ L.filter isCode, P c = true) : L.all P = true := by
  refine List.all_eq_true.mpr fun c hc => ?_
  have h := List.all_eq_true.mp h1 c hc
  rcases Bool.eq_false_or_eq_true (isCode c) with hi | hi
  · exact h2 c (List.mem_filter.mpr ⟨hc, hi⟩)
  · simpa [hi] using h
set_option maxRecDepth 65536 in
theorem w_c0 : (Jvm.Cond.code x code maxLocals ret).before args0 about1 = true := code_word (m := ⟨1, 2⟩) (meth := k1m2) (c := k1c2) (by decide +kernel) rfl rfl rfl (by decide +kernel)
set_option maxRecDepth 65536 in
theorem w_c1 : (Jvm.Cond.code ({ cls := "com/example/pointward/pointward/pointsto/ConstraintGraph", name := "<init>", desc := "()V" } : Jvm.MethodName) prog_13_method_1_code (1 : Nat) (Option.none : Option Jvm.ClassFile.FieldType)).before args0 about1 = true := code_word (m := ⟨2, 0⟩) (meth := k2m0) (c := k2c0) (by decide +kernel) rfl rfl rfl (by decide +kernel)
set_option maxRecDepth 65536 in
theorem w_c2 : (Jvm.Cond.code ({ cls := "java/lang/Object", name := "<init>", desc := "()V" } : Jvm.MethodName) object_method_1_code (1 : Nat) (Option.none : Option Jvm.ClassFile.FieldType)).before args0 about1 = true := code_word (m := ⟨0, 0⟩) (meth := k0m0) (c := k0c0) (by decide +kernel) rfl rfl rfl (by decide +kernel)
set_option maxRecDepth 65536 in
theorem w_c3 : (Jvm.Cond.code ({ cls := "java/util/ArrayDeque", name := "<init>", desc := "()V" } : Jvm.MethodName) jdk_21_method_3_code (1 : Nat) (Option.none : Option Jvm.ClassFile.FieldType)).before args0 about1 = true := code_word (m := ⟨11, 0⟩) (meth := k11m0) (c := k11c0) (by decide +kernel) rfl rfl rfl (by decide +kernel)
set_option maxRecDepth 65536 in
theorem w_c4 : (Jvm.Cond.code ({ cls := "java/util/AbstractCollection", name := "<init>", desc := "()V" } : Jvm.MethodName) jdk_22_method_1_code (1 : Nat) (Option.none : Option Jvm.ClassFile.FieldType)).before args0 about1 = true := code_word (m := ⟨5, 0⟩) (meth := k5m0) (c := k5c0) (by decide +kernel) rfl rfl rfl (by decide +kernel)
set_option maxRecDepth 65536 in
theorem w_c5 : (Jvm.Cond.code ({ cls := "com/example/pointward/pointward/pointsto/LongTable", name := "<init>", desc := "()V" } : Jvm.MethodName) prog_17_method_1_code (1 : Nat) (Option.none : Option Jvm.ClassFile.FieldType)).before args0 about1 = true := code_word (m := ⟨12, 0⟩) (meth := k12m0) (c := k12c0) (by decide +kernel) rfl rfl rfl (by decide +kernel)
set_option maxRecDepth 65536 in
theorem w_c6 : (Jvm.Cond.code ({ cls := "com/example/pointward/pointward/pointsto/ConstraintGraphExistingFieldPinLaw", name := "pickSite", desc := "(IIII)I" } : Jvm.MethodName) method_2_code (4 : Nat) (Option.some Jvm.ClassFile.FieldType.int)).before args0 about1 = true := code_word (m := ⟨1, 1⟩) (meth := k1m1) (c := k1c1) (by decide +kernel) rfl rfl rfl (by decide +kernel)
set_option maxRecDepth 65536 in
theorem w_c7 : (Jvm.Cond.code ({ cls := "com/example/pointward/pointward/pointsto/ConstraintGraph", name := "existingField", desc := "(II)Lcom/example/pointward/pointward/pointsto/ConstraintGraph$Node;" } : Jvm.MethodName) prog_13_method_4_code (3 : Nat) (Option.some (Jvm.ClassFile.FieldType.object "com/example/pointward/pointward/pointsto/ConstraintGraph$Node"))).before args0 about1 = true := code_word (m := ⟨2, 3⟩) (meth := k2m3) (c := k2c3) (by decide +kernel) rfl rfl rfl (by decide +kernel)
set_option maxRecDepth 65536 in
theorem w_c8 : (Jvm.Cond.code ({ cls := "com/example/pointward/pointward/pointsto/LongTable", name := "get", desc := "(J)Ljava/lang/Object;" } : Jvm.MethodName) prog_17_method_2_code (5 : Nat) (Option.some (Jvm.ClassFile.FieldType.object "java/lang/Object"))).before args0 about1 = true := code_word (m := ⟨12, 1⟩) (meth := k12m1) (c := k12c1) (by decide +kernel) rfl rfl rfl (by decide +kernel)
set_option maxRecDepth 65536 in
theorem w_c9 : (Jvm.Cond.code ({ cls := "com/example/pointward/pointward/pointsto/LongTable", name := "slot", desc := "(JI)I" } : Jvm.MethodName) prog_17_method_5_code (5 : Nat) (Option.some Jvm.ClassFile.FieldType.int)).before args0 about1 = true := code_word (m := ⟨12, 3⟩) (meth := k12m3) (c := k12c3) (by decide +kernel) rfl rfl rfl (by decide +kernel)
set_option maxRecDepth 65536 in
theorem w_c10 : (Jvm.Cond.code ({ cls := "com/example/pointward/pointward/pointsto/ConstraintGraph", name := "field", desc := "(II)Lcom/example/pointward/pointward/pointsto/ConstraintGraph$Node;" } : Jvm.MethodName) prog_13_method_3_code (6 : Nat) (Option.some (Jvm.ClassFile.FieldType.object "com/example/pointward/pointward/pointsto/ConstraintGraph$Node"))).before args0 about1 = true := code_word (m := ⟨2, 2⟩) (meth := k2m2) (c := k2c2) (by decide +kernel) rfl rfl rfl (by decide +kernel)
set_option maxRecDepth 65536 in
theorem w_c11 : (Jvm.Cond.code ({ cls := "com/example/pointward/pointward/pointsto/ConstraintGraph", name := "newNode", desc := "()Lcom/example/pointward/pointward/pointsto/ConstraintGraph$Node;" } : Jvm.MethodName) prog_13_method_2_code (1 : Nat) (Option.some (Jvm.ClassFile.FieldType.object "com/example/pointward/pointward/pointsto/ConstraintGraph$Node"))).before args0 about1 = true := code_word (m := ⟨2, 1⟩) (meth := k2m1) (c := k2c1) (by decide +kernel) rfl rfl rfl (by decide +kernel)
set_option maxRecDepth 65536 in
theorem w_c12 : (Jvm.Cond.code ({ cls := "com/example/pointward/pointward/pointsto/ConstraintGraph$Node", name := "<init>", desc := "(I)V" } : Jvm.MethodName) prog_14_method_1_code (2 : Nat) (Option.none : Option Jvm.ClassFile.FieldType)).before args0 about1 = true := code_word (m := ⟨13, 0⟩) (meth := k13m0) (c := k13c0) (by decide +kernel) rfl rfl rfl (by decide +kernel)
set_option maxRecDepth 65536 in
theorem w_c13 : (Jvm.Cond.code ({ cls := "com/example/pointward/pointward/pointsto/SiteSet", name := "<init>", desc := "()V" } : Jvm.MethodName) prog_18_method_1_code (1 : Nat) (Option.none : Option Jvm.ClassFile.FieldType)).before args0 about1 = true := code_word (m := ⟨14, 0⟩) (meth := k14m0) (c := k14c0) (by decide +kernel) rfl rfl rfl (by decide +kernel)
set_option maxRecDepth 65536 in
theorem w_c14 : (Jvm.Cond.code ({ cls := "java/util/ArrayList", name := "<init>", desc := "(I)V" } : Jvm.MethodName) jdk_38_method_1_code (2 : Nat) (Option.none : Option Jvm.ClassFile.FieldType)).before args0 about1 = true := code_word (m := ⟨18, 0⟩) (meth := k18m0) (c := k18c0) (by decide +kernel) rfl rfl rfl (by decide +kernel)
set_option maxRecDepth 65536 in
theorem w_c15 : (Jvm.Cond.code ({ cls := "java/util/AbstractList", name := "<init>", desc := "()V" } : Jvm.MethodName) jdk_39_method_1_code (1 : Nat) (Option.none : Option Jvm.ClassFile.FieldType)).before args0 about1 = true := code_word (m := ⟨16, 0⟩) (meth := k16m0) (c := k16c0) (by decide +kernel) rfl rfl rfl (by decide +kernel)
set_option maxRecDepth 65536 in
theorem w_c16 : (Jvm.Cond.code ({ cls := "java/util/List", name := "of", desc := "()Ljava/util/List;" } : Jvm.MethodName) jdk_40_method_36_code (0 : Nat) (Option.some (Jvm.ClassFile.FieldType.object "java/util/List"))).before args0 about1 = true := code_word (m := ⟨15, 0⟩) (meth := k15m0) (c := k15c0) (by decide +kernel) rfl rfl rfl (by decide +kernel)
set_option maxRecDepth 65536 in
theorem w_c17 : (Jvm.Cond.code ({ cls := "com/example/pointward/pointward/pointsto/LongTable", name := "put", desc := "(JLjava/lang/Object;)V" } : Jvm.MethodName) prog_17_method_3_code (6 : Nat) (Option.none : Option Jvm.ClassFile.FieldType)).before args0 about1 = true := code_word (m := ⟨12, 2⟩) (meth := k12m2) (c := k12c2) (by decide +kernel) rfl rfl rfl (by decide +kernel)
def codes1 : List Jvm.Cond := [Jvm.Cond.code x code maxLocals ret, Jvm.Cond.code ({ cls := "com/example/pointward/pointward/pointsto/ConstraintGraph", name := "<init>", desc := "()V" } : Jvm.MethodName) prog_13_method_1_code (1 : Nat) (Option.none : Option Jvm.ClassFile.FieldType), Jvm.Cond.code ({ cls := "java/lang/Object", name := "<init>", desc := "()V" } : Jvm.MethodName) object_method_1_code (1 : Nat) (Option.none : Option Jvm.ClassFile.FieldType), Jvm.Cond.code ({ cls := "java/util/ArrayDeque", name := "<init>", desc := "()V" } : Jvm.MethodName) jdk_21_method_3_code (1 : Nat) (Option.none : Option Jvm.ClassFile.FieldType), Jvm.Cond.code ({ cls := "java/util/AbstractCollection", name := "<init>", desc := "()V" } : Jvm.MethodName) jdk_22_method_1_code (1 : Nat) (Option.none : Option Jvm.ClassFile.FieldType), Jvm.Cond.code ({ cls := "com/example/pointward/pointward/pointsto/LongTable", name := "<init>", desc := "()V" } : Jvm.MethodName) prog_17_method_1_code (1 : Nat) (Option.none : Option Jvm.ClassFile.FieldType), Jvm.Cond.code ({ cls := "com/example/pointward/pointward/pointsto/ConstraintGraphExistingFieldPinLaw", name := "pickSite", desc := "(IIII)I" } : Jvm.MethodName) method_2_code (4 : Nat) (Option.some Jvm.ClassFile.FieldType.int), Jvm.Cond.code ({ cls := "com/example/pointward/pointward/pointsto/ConstraintGraph", name := "existingField", desc := "(II)Lcom/example/pointward/pointward/pointsto/ConstraintGraph$Node;" } : Jvm.MethodName) prog_13_method_4_code (3 : Nat) (Option.some (Jvm.ClassFile.FieldType.object "com/example/pointward/pointward/pointsto/ConstraintGraph$Node")), Jvm.Cond.code ({ cls := "com/example/pointward/pointward/pointsto/LongTable", name := "get", desc := "(J)Ljava/lang/Object;" } : Jvm.MethodName) prog_17_method_2_code (5 : Nat) (Option.some (Jvm.ClassFile.FieldType.object "java/lang/Object")), Jvm.Cond.code ({ cls := "com/example/pointward/pointward/pointsto/LongTable", name := "slot", desc := "(JI)I" } : Jvm.MethodName) prog_17_method_5_code (5 : Nat) (Option.some Jvm.ClassFile.FieldType.int), Jvm.Cond.code ({ cls := "com/example/pointward/pointward/pointsto/ConstraintGraph", name := "field", desc := "(II)Lcom/example/pointward/pointward/pointsto/ConstraintGraph$Node;" } : Jvm.MethodName) prog_13_method_3_code (6 : Nat) (Option.some (Jvm.ClassFile.FieldType.object "com/example/pointward/pointward/pointsto/ConstraintGraph$Node")), Jvm.Cond.code ({ cls := "com/example/pointward/pointward/pointsto/ConstraintGraph", name := "newNode", desc := "()Lcom/example/pointward/pointward/pointsto/ConstraintGraph$Node;" } : Jvm.MethodName) prog_13_method_2_code (1 : Nat) (Option.some (Jvm.ClassFile.FieldType.object "com/example/pointward/pointward/pointsto/ConstraintGraph$Node")), Jvm.Cond.code ({ cls := "com/example/pointward/pointward/pointsto/ConstraintGraph$Node", name := "<init>", desc := "(I)V" } : Jvm.MethodName) prog_14_method_1_code (2 : Nat) (Option.none : Option Jvm.ClassFile.FieldType), Jvm.Cond.code ({ cls := "com/example/pointward/pointward/pointsto/SiteSet", name := "<init>", desc := "()V" } : Jvm.MethodName) prog_18_method_1_code (1 : Nat) (Option.none : Option Jvm.ClassFile.FieldType), Jvm.Cond.code ({ cls := "java/util/ArrayList", name := "<init>", desc := "(I)V" } : Jvm.MethodName) jdk_38_method_1_code (2 : Nat) (Option.none : Option Jvm.ClassFile.FieldType), Jvm.Cond.code ({ cls := "java/util/AbstractList", name := "<init>", desc := "()V" } : Jvm.MethodName) jdk_39_method_1_code (1 : Nat) (Option.none : Option Jvm.ClassFile.FieldType), Jvm.Cond.code ({ cls := "java/util/List", name := "of", desc := "()Ljava/util/List;" } : Jvm.MethodName) jdk_40_method_36_code (0 : Nat) (Option.some (Jvm.ClassFile.FieldType.object "java/util/List")), Jvm.Cond.code ({ cls := "com/example/pointward/pointward/pointsto/LongTable", name := "put", desc := "(JLjava/lang/Object;)V" } : Jvm.MethodName) prog_17_method_3_code (6 : Nat) (Option.none : Option Jvm.ClassFile.FieldType)]
set_option maxRecDepth 65536 in
theorem codes_eq : words1.filter isCode = codes1 := rfl
theorem w_codes : ∀ c ∈ words1.filter isCode, c.before args0 about1 = true := by
  rw [codes_eq]
  intro c hc
  simp only [codes1, List.mem_cons, List.not_mem_nil, or_false] at hc
  rcases hc with rfl | rfl | rfl | rfl | rfl | rfl | rfl | rfl | rfl | rfl | rfl | rfl | rfl | rfl | rfl | rfl | rfl | rfl
  · exact w_c0
  · exact w_c1
  · exact w_c2
  · exact w_c3
  · exact w_c4
  · exact w_c5
  · exact w_c6
  · exact w_c7
  · exact w_c8
  · exact w_c9
  · exact w_c10
  · exact w_c11
  · exact w_c12
  · exact w_c13
  · exact w_c14
  · exact w_c15
  · exact w_c16
  · exact w_c17
set_option maxRecDepth 65536 in
theorem w_t1 : (words1.take 24).all (fun c => isCode c || c.before args0 about1) = true := by decide +kernel
set_option maxRecDepth 65536 in
theorem w_t2 : ((words1.drop 24).take 24).all (fun c => isCode c || c.before args0 about1) = true := by decide +kernel
set_option maxRecDepth 65536 in
theorem w_t3 : (((words1.drop 24).drop 24).take 24).all (fun c => isCode c || c.before args0 about1) = true := by decide +kernel
set_option maxRecDepth 65536 in
theorem w_t4 : ((((words1.drop 24).drop 24).drop 24).take 24).all (fun c => isCode c || c.before args0 about1) = true := by decide +kernel
set_option maxRecDepth 65536 in
theorem w_t5 : (((((words1.drop 24).drop 24).drop 24).drop 24).take 24).all (fun c => isCode c || c.before args0 about1) = true := by decide +kernel
set_option maxRecDepth 65536 in
theorem w_t6 : (((((words1.drop 24).drop 24).drop 24).drop 24).drop 24).all (fun c => isCode c || c.before args0 about1) = true := by decide +kernel
theorem w_tables : (allAtoms (Jvm.Cond.code x code maxLocals ret :: tables_1)).before args0 about1 = true := by
  rw [allAtoms_all]
  show words1.all (fun c => c.before args0 about1) = true
  refine all_split ?_ w_codes
  rw [← List.take_append_drop 24 words1, List.all_append, w_t1, ← List.take_append_drop 24 (words1.drop 24), List.all_append, w_t2, ← List.take_append_drop 24 ((words1.drop 24).drop 24), List.all_append, w_t3, ← List.take_append_drop 24 (((words1.drop 24).drop 24).drop 24), List.all_append, w_t4, ← List.take_append_drop 24 ((((words1.drop 24).drop 24).drop 24).drop 24), List.all_append, w_t5, w_t6]
  rfl
set_option maxRecDepth 65536 in
theorem w_rest : rest_1_c.before args0 about1 = true := by decide +kernel
set_option maxRecDepth 65536 in
theorem w_case : (Jvm.Cond.and given_1 narrow_1).before args0 about1 = true := by decide +kernel
theorem w_applies : (headSpec (Jvm.Cond.code x code maxLocals ret :: tables_1) room_1).applies x e0.platform about1 = true :=
  (Spec.applies_iff w_frames).mpr ⟨w_running, w_runnable, w_alone, w_named, w_hears, w_ripe, w_room, w_tables⟩
theorem atStart : AtStart classFile x code maxLocals ret World_1 tables_1 room_1 Calls_1 rest_1 Pre_1 launch0 p0 e0 about1 theMethod args0 below0 :=
  ⟨lists_1, trivial, launch0.admits_env _ _ _, launch0.least_env, fairChoices_fair.cas, fairChoices_fair.clock, w_frames, w_args, w_heap, w_applies, trivial, w_rest, w_case⟩
end start1
theorem witness_1 : WitnessClaimed_1 := ⟨start1.p0, start1.e0, start1.about1, start1.theMethod, start1.args0, start1.below0, start1.atStart⟩
end Jvm.Pilot.@@N@@
