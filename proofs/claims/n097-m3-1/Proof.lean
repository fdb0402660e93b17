import JvmDerived
import JvmDerived.Pilot.@@N@@Statement
import JvmDerived.Pilot.@@N@@Code
set_option linter.unusedVariables false
set_option linter.unusedSimpArgs false
set_option maxRecDepth 65536
set_option maxHeartbeats 40000000
namespace Jvm.RoadKit
open Sem ClassFile Op Lib Jvm.Stand Jvm.Free Jvm.LawKit
section New
variable {p : Program} {l : Launch} {e : Env} {R : Room} {s : State} {m : MethodId} {args : Array Value} {below : List Frame} {meth : Method} {c : Code} {T : State} {locs : List Loc} {cells slots : Nat}
theorem retI (X : Stand p l e R s m args below meth c T locs cells slots) (hx : p.tables.exec = Jvm.exec) {pc : Nat} {Ls : Array Slot} {z : Int32} {rest : List Value} (hret : meth.sig.returnType = some .int) (hd : decode c.code pc = .ok (.ireturn, 1)) {fs : List Frame}
    (hl : ∀ (f : JFrame) (acts : List Action), f.method = m → f.locked = none → f.entered = [] → (doReturn e (T.setTop f) acts (some (.int z))).1 = T.setFrames fs) : Steps p.tables e below (T.setTop (mkF m pc Ls (.int z :: rest))) (T.setFrames fs) := by
  have hm' : T.vm.method? m = some meth := X.method'
  have hn : narrow .int (.int z) = .int z := rfl
  show Steps p.tables e below (T.setTop { method := m, pc := pc, locals := Ls, stack := _ :: rest, locked := none }) _
  jvm_step X.here [X.here.top, hx, hd, hm', hret, hn]
  first | (intro acts; rw [hl _ acts rfl rfl rfl]) | rw [hl _ _ rfl rfl rfl]
  exact Steps.refl _
end New
end Jvm.RoadKit
namespace Jvm.Pilot.@@N@@
open Jvm Jvm.ClassFile Sem Op Lib Jvm.Free Jvm.Stand Jvm.LawKit Jvm.RoadKit Bundle Jvm.Pilot.@@N@@.Jvm.D
theorem own_w {Z : State} {a0 : Array Value} (hw : ∀ d ∈ tables_1, d.before a0 Z = true) (k : Nat) {d : Jvm.Cond} (h : tables_1[k]? = some d) : d.before a0 Z = true := hw _ (List.mem_of_getElem? h)
abbrev own_R (f c s l : Nat) : Room := { frames := f, cells := c, slots := s, locals := l }
abbrev vU : Slot := .unset
abbrev vS : Slot := .second
abbrev vN : Slot := .val .null
abbrev vI (x : Int32) : Slot := .val (.int x)
abbrev vJ (x : Int64) : Slot := .val (.long x)
abbrev vR (x : Addr) : Slot := .val (.ref x)
abbrev vV (x : Value) : Slot := .val x
abbrev Go (p : Program) (e : Env) (below : List Frame) (T : State) (f : JFrame) (t : State) : Prop := Steps p.tables e below (T.setTop f) t
theorem own_narR {v : Value} (t : FieldType) (ht : t.isReference = true) (hv : v.isRef = true) : narrow t v = v := by cases t <;> cases v <;> simp_all [narrow, FieldType.isReference, Value.isRef]
abbrev OwnMet (l : Launch) (y : MethodName) (ws : List Jvm.Cond) (rm : Room) (A : Array Value) (Z : State) (h0 : Heap) (Q : Option Value → Heap → List Loc → Prop) : Prop :=
  MetFree l y (head1 ws rm) (fun a U => a = A ∧ Z.Warmed39 U.vm ∧ U.heap = h0) (fun _ _ _ _ _ => True) (fun _ U o U' => ∃ v L, o = .returned v ∧ Q v U'.heap L ∧ FrameEnd U o U' L rm.cells rm.slots)
theorem own_body {l : Launch} {y : MethodName} {ws : List Jvm.Cond} {rm : Room} {bytes : ByteArray} {maxL : Nat} {ret : Option FieldType} {A : Array Value} {Z : State} {h0 : Heap} {Q : Option Value → Heap → List Loc → Prop} (hp : plainFor y = true)
    (his : ∀ args (s : State) m, (head1 ws rm).pre.before args s = true → s.methodNamed? y = some m → ∃ meth c, s.vm.method? m = some meth ∧ meth.code = some c ∧ c.code = bytes ∧ c.maxLocals = maxL ∧ meth.sig.returnType = ret ∧ meth.locks = false)
    (body : ∀ (p : Program) (e : Env) (s : State) (m : MethodId) (below : List Frame) (meth : Method) (c : Code) (s₁ : State), p.tables.exec = Jvm.exec → c.code = bytes → c.maxLocals = maxL → s.vm.findClass y.cls = some m.cls → meth.name = y.name → meth.sig.returnType = ret → Z.Warmed39 s.vm → Stand p l e rm s m A below meth c s₁ [] 0 0 → s₁.heap = h0 →
      ∃ (v : Option Value) (T : State) (locs : List Loc) (cells slots : Nat) (f : JFrame), Stand p l e rm s m A below meth c T locs cells slots ∧ cells ≤ rm.cells ∧ slots ≤ rm.slots ∧ (ret = none → v = none) ∧ (∀ t, Go p e below T f t → Go p e below s₁ (entryFrame m A maxL) t) ∧
        (∀ fs, (∀ (f : JFrame) (acts : List Action), f.method = m → f.locked = none → f.entered = [] → (doReturn e (T.setTop f) acts v).1 = T.setFrames fs) → Go p e below T f (T.setFrames fs)) ∧ Q v T.heap locs) :
    MetFree l y (head1 ws rm) (fun a U => a = A ∧ Z.Warmed39 U.vm ∧ U.heap = h0) (fun _ _ _ _ _ => True) (fun _ U o U' => ∃ v L, o = .returned v ∧ Q v U'.heap L ∧ FrameEnd U o U' L rm.cells rm.slots) := by
  refine MetFree.of_bodySF hp his ?_
  intro p e s m args below meth c s₁ Bd hml0 hP hK
  obtain ⟨rfl, hZ, hh⟩ := hP
  obtain ⟨v, T, locs, cells, slots, f, X, hc, hs, hv, q, hf, hQ⟩ := body p e s m below meth c s₁ Bd.exec Bd.bytes hml0 (findClass_of_methodNamed Bd.named) (name_of_methodNamed Bd.named Bd.method).1 Bd.returns hZ (Stand.of_body Bd) (by rw [← hh, Bd.state]; rfl)
  obtain ⟨fs, hr, hrun, hended, hW, hsame⟩ := X.leave (v := v) (fun h => hv (Bd.returns ▸ h))
  exact ⟨_, _, q _ (hf fs hr), hrun, hended, v, locs, rfl, hQ, ⟨_, rfl⟩, hW, hsame.mono hc hs⟩
theorem own_eqI {args : Array Value} {Z : State} {t : Term} {k : Int32} (h : (Jvm.Cond.eq t (Term.int k)).value args Z none Z [] = some true) : t.eval args Z none [] Z = some (.int k) := by
  obtain ⟨x, y, e1, e2, k1, k2⟩ := cmp_v (Or.inl h)
  rw [Term.int_eval] at e2; cases Option.some.inj e2
  cases x <;> first | (obtain ⟨z, hz⟩ := k2; cases hz; simp [Cond.value, e1, Term.int_eval] at h; rw [e1, h]) | (obtain ⟨z, hz⟩ := k2; cases hz)
theorem own_fldI {args : Array Value} {Z : State} {t : Term} {k : Int32} {C n d : String} {w : Addr} (ht : t.eval args Z none [] Z = some (.ref w)) (h : (Jvm.Cond.eq (Term.field t C n d) (Term.int k)).value args Z none Z [] = some true) : Fld Z Z.heap w C n d (.int k) :=
  Fld.start ((fld_at ht).symm.trans (own_eqI h))
def Cx (Z : State) (w_MAX : Addr) (w_MIN : Addr) : Prop := Sta Z Z.heap "com/example/dido/dido/model/Direction" "MAX" "Lcom/example/dido/dido/model/Direction;" (.ref w_MAX) ∧ Exa Z Z.heap w_MAX "com/example/dido/dido/model/Direction" ∧ Sta Z Z.heap "com/example/dido/dido/model/Direction" "MIN" "Lcom/example/dido/dido/model/Direction;" (.ref w_MIN) ∧ Exa Z Z.heap w_MIN "com/example/dido/dido/model/Direction" ∧ Fld Z Z.heap w_MIN "java/lang/Enum" "ordinal" "I" (.int (1 : Int32)) ∧ Fld Z Z.heap w_MAX "java/lang/Enum" "ordinal" "I" (.int (0 : Int32)) ∧ ¬ (w_MAX = w_MIN)
theorem ef_1_R (m : MethodId) (x0 : Addr) : entryFrame m #[(.ref x0)] 1 = mkF m 0 #[.val (.ref x0)] [] := by first | (simp [entryFrame, mkF, argsToLocals, Value.category]; done) | rfl
theorem pn_1 : plainName "com/example/dido/dido/model/Direction" = true := by first | (simp [plainName, overriddenIn]; done) | decide +kernel
theorem d1_0 : decode prog_36_method_4_code 0 = .ok (.aload_n 0, 1) := by decide +kernel
theorem d1_1 : decode prog_36_method_4_code 1 = .ok (.getstatic 3, 3) := by decide +kernel
theorem d1_4 : decode prog_36_method_4_code 4 = .ok (.if_acmp .ne 9, 3) := by decide +kernel
theorem d1_7 : decode prog_36_method_4_code 7 = .ok (.getstatic 7, 3) := by decide +kernel
theorem d1_10 : decode prog_36_method_4_code 10 = .ok (.goto 6, 3) := by decide +kernel
theorem d1_16 : decode prog_36_method_4_code 16 = .ok (.areturn, 1) := by decide +kernel
def Q_rm1a (Z : State) (w_MAX : Addr) (w_MIN : Addr) (h0 : Heap) (n0 : Nat) (v : Option Value) (h : Heap) (L : List Loc) : Prop := v = some (.ref w_MIN) ∧ Fr n0 L ∧ h = h0
theorem rm1a (l : Launch) (Z : State) (a0 : Array Value) (hw : ∀ d ∈ tables_1, d.before a0 Z = true) (ws : List Jvm.Cond) {w_MAX : Addr} {w_MIN : Addr} (cx : Cx Z w_MAX w_MIN) (h0 : Heap) (n0 : Nat) (O0 : Old Z n0 h0) :
    OwnMet l (⟨"com/example/dido/dido/model/Direction", "opposite", "()Lcom/example/dido/dido/model/Direction;"⟩ : MethodName) (Jvm.Cond.code (⟨"com/example/dido/dido/model/Direction", "opposite", "()Lcom/example/dido/dido/model/Direction;"⟩ : MethodName) prog_36_method_4_code 1 (some (.object "com/example/dido/dido/model/Direction")) :: ws) (own_R 0 0 0 0) #[(.ref w_MAX)] Z h0 (Q_rm1a Z  w_MAX w_MIN h0 n0) := by
  refine own_body (plainFor_of_name pn_1) hisR fun p e s m below meth c s₁ hx hby hml hown hnm hret hZ X0 e0 => ?_
  have N0 := Fr.nil n0
  have pre0 : ∀ t, Go p e below s₁ (mkF m 0 #[.val (.ref w_MAX)] []) t → Go p e below s₁ (entryFrame m #[(.ref w_MAX)] 1) t := fun t k => castTop (ef_1_R m w_MAX) k
  have q1 := fun t (kt : Go p e below s₁ (mkF m 1 #[.val (.ref w_MAX)] [(.ref w_MAX)]) t) => pre0 t (by
    show Go p e below s₁ (mkF m 0 #[.val (.ref w_MAX)] []) _
    refine XS.aloadN X0.here hx rfl (hb hby d1_0) rfl rfl ?_
    exact kt)
  obtain ⟨T2, X2, e2, st2⟩ := getS2 X0 hx hZ hown (host := "") (Or.inl (own_w hw 10 rfl)) Via.refl e0 (cx.1.ext O0.2) (g := (mkF m 1 #[.val (.ref w_MAX)] [(.ref w_MAX)])) rfl (hb hby d1_1)
  have q3 := fun t (kt : Go p e below T2 (mkF m 4 #[.val (.ref w_MAX)] [(.ref w_MAX), (.ref w_MAX)]) t) => q1 t (st2 t kt)
  have q4 := fun t (kt : Go p e below T2 (mkF m 7 #[.val (.ref w_MAX)] []) t) => q3 t (by
    show Go p e below T2 (mkF m 4 #[.val (.ref w_MAX)] [(.ref w_MAX), (.ref w_MAX)]) _
    refine Jvm.RoadKit.acmp (g := (mkF m 4 #[.val (.ref w_MAX)] [(.ref w_MAX), (.ref w_MAX)])) X2 hx rfl rfl rfl (pc0 := 4) (pc' := 7) (same := true) rfl (hb hby d1_4) rfl (decide_eq_true rfl) (by decide) (by decide) ?_
    exact kt)
  obtain ⟨T5, X5, e5, st5⟩ := getS2 X2 hx hZ hown (host := "") (Or.inl (own_w hw 11 rfl)) Via.refl e2 (cx.2.2.1.ext O0.2) (g := (mkF m 7 #[.val (.ref w_MAX)] [])) rfl (hb hby d1_7)
  have q6 := fun t (kt : Go p e below T5 (mkF m 10 #[.val (.ref w_MAX)] [(.ref w_MIN)]) t) => q4 t (st5 t kt)
  have q7 := fun t (kt : Go p e below T5 (mkF m 16 #[.val (.ref w_MAX)] [(.ref w_MIN)]) t) => q6 t (by
    show Go p e below T5 (mkF m 10 #[.val (.ref w_MAX)] [(.ref w_MIN)]) _
    refine XS.goto X5.here hx rfl (pc0 := 10) (pc' := 16) rfl (hb hby d1_10) (by decide) (by decide) ?_
    exact kt)
  exact ⟨some (.ref w_MIN), T5, _, _, _, _, X5, by decide, by decide, nofun, q7, fun fs hr => retOut X5 hx hret rfl (Or.inr (Or.inr (Or.inr (Or.inr ⟨rfl, rfl, rfl⟩)))) (hb hby d1_16) hr, by rw [e5]; exact ⟨rfl, N0, rfl⟩⟩
theorem d1_13 : decode prog_36_method_4_code 13 = .ok (.getstatic 3, 3) := by decide +kernel
def Q_rm1b (Z : State) (w_MAX : Addr) (w_MIN : Addr) (h0 : Heap) (n0 : Nat) (v : Option Value) (h : Heap) (L : List Loc) : Prop := v = some (.ref w_MAX) ∧ Fr n0 L ∧ h = h0
theorem rm1b (l : Launch) (Z : State) (a0 : Array Value) (hw : ∀ d ∈ tables_1, d.before a0 Z = true) (ws : List Jvm.Cond) {w_MAX : Addr} {w_MIN : Addr} (cx : Cx Z w_MAX w_MIN) (h0 : Heap) (n0 : Nat) (O0 : Old Z n0 h0) :
    OwnMet l (⟨"com/example/dido/dido/model/Direction", "opposite", "()Lcom/example/dido/dido/model/Direction;"⟩ : MethodName) (Jvm.Cond.code (⟨"com/example/dido/dido/model/Direction", "opposite", "()Lcom/example/dido/dido/model/Direction;"⟩ : MethodName) prog_36_method_4_code 1 (some (.object "com/example/dido/dido/model/Direction")) :: ws) (own_R 0 0 0 0) #[(.ref w_MIN)] Z h0 (Q_rm1b Z  w_MAX w_MIN h0 n0) := by
  refine own_body (plainFor_of_name pn_1) hisR fun p e s m below meth c s₁ hx hby hml hown hnm hret hZ X0 e0 => ?_
  have N0 := Fr.nil n0
  have pre0 : ∀ t, Go p e below s₁ (mkF m 0 #[.val (.ref w_MIN)] []) t → Go p e below s₁ (entryFrame m #[(.ref w_MIN)] 1) t := fun t k => castTop (ef_1_R m w_MIN) k
  have q1 := fun t (kt : Go p e below s₁ (mkF m 1 #[.val (.ref w_MIN)] [(.ref w_MIN)]) t) => pre0 t (by
    show Go p e below s₁ (mkF m 0 #[.val (.ref w_MIN)] []) _
    refine XS.aloadN X0.here hx rfl (hb hby d1_0) rfl rfl ?_
    exact kt)
  obtain ⟨T2, X2, e2, st2⟩ := getS2 X0 hx hZ hown (host := "") (Or.inl (own_w hw 10 rfl)) Via.refl e0 (cx.1.ext O0.2) (g := (mkF m 1 #[.val (.ref w_MIN)] [(.ref w_MIN)])) rfl (hb hby d1_1)
  have q3 := fun t (kt : Go p e below T2 (mkF m 4 #[.val (.ref w_MIN)] [(.ref w_MAX), (.ref w_MIN)]) t) => q1 t (st2 t kt)
  have q4 := fun t (kt : Go p e below T2 (mkF m 13 #[.val (.ref w_MIN)] []) t) => q3 t (by
    show Go p e below T2 (mkF m 4 #[.val (.ref w_MIN)] [(.ref w_MAX), (.ref w_MIN)]) _
    refine Jvm.RoadKit.acmp (g := (mkF m 4 #[.val (.ref w_MIN)] [(.ref w_MAX), (.ref w_MIN)])) X2 hx rfl rfl rfl (pc0 := 4) (pc' := 13) (same := false) rfl (hb hby d1_4) rfl (decide_eq_false (fun q => (Ne.symm cx.2.2.2.2.2.2) (Value.ref.inj q))) (by decide) (by decide) ?_
    exact kt)
  obtain ⟨T5, X5, e5, st5⟩ := getS2 X2 hx hZ hown (host := "") (Or.inl (own_w hw 10 rfl)) Via.refl e2 (cx.1.ext O0.2) (g := (mkF m 13 #[.val (.ref w_MIN)] [])) rfl (hb hby d1_13)
  have q6 := fun t (kt : Go p e below T5 (mkF m 16 #[.val (.ref w_MIN)] [(.ref w_MAX)]) t) => q4 t (st5 t kt)
  exact ⟨some (.ref w_MAX), T5, _, _, _, _, X5, by decide, by decide, nofun, q6, fun fs hr => retOut X5 hx hret rfl (Or.inr (Or.inr (Or.inr (Or.inr ⟨rfl, rfl, rfl⟩)))) (hb hby d1_16) hr, by rw [e5]; exact ⟨rfl, N0, rfl⟩⟩
theorem ef_0_I (m : MethodId) (x0 : Int32) : entryFrame m #[(.int x0)] maxLocals = mkF m 0 #[.val (.int x0), .unset, .unset, .unset, .unset] [] := by first | (simp [entryFrame, mkF, argsToLocals, Value.category, maxLocals]; done) | rfl
theorem pn_0 : plainName "com/example/dido/dido/model/DirectionOppositePinLaw" = true := by first | (simp [plainName, overriddenIn]; done) | decide +kernel
theorem pd_0 : parseMethodDescriptor "()Lcom/example/dido/dido/model/Direction;" = some ⟨[], some (.object "com/example/dido/dido/model/Direction")⟩ := by decide +kernel
def Q_rm0 (Z : State) (p1 : Int32) (w_MAX : Addr) (w_MIN : Addr) (h0 : Heap) (n0 : Nat) (v : Option Value) (h : Heap) (L : List Loc) : Prop := v = some (.int (1 : Int32)) ∧ Fr n0 L
theorem rm0 (l : Launch) (Z : State) (a0 : Array Value) (hw : ∀ d ∈ tables_1, d.before a0 Z = true) (ws : List Jvm.Cond) {w_MAX : Addr} {w_MIN : Addr} (cx : Cx Z w_MAX w_MIN) (p1 : Int32) (h0 : Heap) (n0 : Nat) (O0 : Old Z n0 h0) :
    OwnMet l x (Jvm.Cond.code x code maxLocals ret :: ws) room_1 #[(.int p1)] Z h0 (Q_rm0 Z p1 w_MAX w_MIN h0 n0) := by
  refine own_body (plainFor_of_name pn_0) hisR fun p e s m below meth c s₁ hx hby hml hown hnm hret hZ X0 e0 => ?_
  have N0 := Fr.nil n0
  have pre0 : ∀ t, Go p e below s₁ (mkF m 0 #[.val (.int p1), .unset, .unset, .unset, .unset] []) t → Go p e below s₁ (entryFrame m #[(.int p1)] maxLocals) t := fun t k => castTop (ef_0_I m p1) k
  have q1 := fun t (kt : Go p e below s₁ (mkF m 3 #[.val (.int p1), .unset, .unset, .unset, .unset] [(.int (p1 &&& (1 : Int32)))]) t) => pre0 t (by
    show Go p e below s₁ (mkF m 0 #[.val (.int p1), .unset, .unset, .unset, .unset] []) _
    refine XS.iloadN X0.here hx rfl (hb hby at_0) rfl ?_
    show Go p e below s₁ (mkF m 1 #[.val (.int p1), .unset, .unset, .unset, .unset] [(.int p1)]) _
    refine XS.iconst X0.here hx rfl (hb hby at_1) ?_
    show Go p e below s₁ (mkF m 2 #[.val (.int p1), .unset, .unset, .unset, .unset] [(.int (1 : Int32)), (.int p1)]) _
    refine XS.iand X0.here hx rfl (hb hby at_2) rfl ?_
    exact kt)
  by_cases hc2 : (p1 &&& (1 : Int32)) = (0 : Int32)
  · have q3 := fun t (kt : Go p e below s₁ (mkF m 16 #[.val (.int p1), .val (.int (1 : Int32)), .unset, .unset, .unset] []) t) => q1 t (by
      show Go p e below s₁ (mkF m 3 #[.val (.int p1), .unset, .unset, .unset, .unset] [(.int (p1 &&& (1 : Int32)))]) _
      refine XS.ifNo X0.here hx rfl (hb hby at_3) rfl ((if0 _ _).trans (teq hc2).2) ?_
      show Go p e below s₁ (mkF m 6 #[.val (.int p1), .unset, .unset, .unset, .unset] []) _
      refine XS.iconst X0.here hx rfl (hb hby at_6) ?_
      show Go p e below s₁ (mkF m 7 #[.val (.int p1), .unset, .unset, .unset, .unset] [(.int (1 : Int32))]) _
      refine XS.goto X0.here hx rfl (pc0 := 7) (pc' := 11) rfl (hb hby at_7) (by decide) (by decide) ?_
      show Go p e below s₁ (mkF m 11 #[.val (.int p1), .unset, .unset, .unset, .unset] [(.int (1 : Int32))]) _
      refine XS.istoreN X0.here hx rfl (hb hby at_11) rfl (l' := #[.val (.int p1), .val (.int (1 : Int32)), .unset, .unset, .unset]) rfl ?_
      show Go p e below s₁ (mkF m 12 #[.val (.int p1), .val (.int (1 : Int32)), .unset, .unset, .unset] []) _
      refine XS.iloadN X0.here hx rfl (hb hby at_12) rfl ?_
      show Go p e below s₁ (mkF m 13 #[.val (.int p1), .val (.int (1 : Int32)), .unset, .unset, .unset] [(.int (1 : Int32))]) _
      refine XS.ifNo X0.here hx rfl (hb hby at_13) rfl ((if0 _ _).trans (feq (by decide : ¬ ((1 : Int32) = (0 : Int32)))).1) ?_
      exact kt)
    obtain ⟨T4, X4, e4, st4⟩ := getS2 X0 hx hZ hown (host := "") (Or.inl (own_w hw 0 rfl)) Via.refl e0 (cx.1.ext O0.2) (g := (mkF m 16 #[.val (.int p1), .val (.int (1 : Int32)), .unset, .unset, .unset] [])) rfl (hb hby at_16)
    have q5 := fun t (kt : Go p e below T4 (mkF m 19 #[.val (.int p1), .val (.int (1 : Int32)), .unset, .unset, .unset] [(.ref w_MAX)]) t) => q3 t (st4 t kt)
    have q6 := fun t (kt : Go p e below T4 (mkF m 30 #[.val (.int p1), .val (.int (1 : Int32)), .val (.ref w_MAX), .unset, .unset] []) t) => q5 t (by
      show Go p e below T4 (mkF m 19 #[.val (.int p1), .val (.int (1 : Int32)), .unset, .unset, .unset] [(.ref w_MAX)]) _
      refine XS.goto X4.here hx rfl (pc0 := 19) (pc' := 25) rfl (hb hby at_19) (by decide) (by decide) ?_
      show Go p e below T4 (mkF m 25 #[.val (.int p1), .val (.int (1 : Int32)), .unset, .unset, .unset] [(.ref w_MAX)]) _
      refine XS.astoreN X4.here hx rfl (hb hby at_25) rfl rfl (l' := #[.val (.int p1), .val (.int (1 : Int32)), .val (.ref w_MAX), .unset, .unset]) rfl ?_
      show Go p e below T4 (mkF m 26 #[.val (.int p1), .val (.int (1 : Int32)), .val (.ref w_MAX), .unset, .unset] []) _
      refine XS.iloadN X4.here hx rfl (hb hby at_26) rfl ?_
      show Go p e below T4 (mkF m 27 #[.val (.int p1), .val (.int (1 : Int32)), .val (.ref w_MAX), .unset, .unset] [(.int (1 : Int32))]) _
      refine XS.ifNo X4.here hx rfl (hb hby at_27) rfl ((if0 _ _).trans (feq (by decide : ¬ ((1 : Int32) = (0 : Int32)))).1) ?_
      exact kt)
    obtain ⟨T7, X7, e7, st7⟩ := getS2 X4 hx hZ hown (host := "") (Or.inl (own_w hw 3 rfl)) Via.refl e4 (cx.2.2.1.ext O0.2) (g := (mkF m 30 #[.val (.int p1), .val (.int (1 : Int32)), .val (.ref w_MAX), .unset, .unset] [])) rfl (hb hby at_30)
    have q8 := fun t (kt : Go p e below T7 (mkF m 33 #[.val (.int p1), .val (.int (1 : Int32)), .val (.ref w_MAX), .unset, .unset] [(.ref w_MIN)]) t) => q6 t (st7 t kt)
    have q9 := fun t (kt : Go p e below T7 (mkF m 41 #[.val (.int p1), .val (.int (1 : Int32)), .val (.ref w_MAX), .val (.ref w_MIN), .unset] [(.ref w_MAX)]) t) => q8 t (by
      show Go p e below T7 (mkF m 33 #[.val (.int p1), .val (.int (1 : Int32)), .val (.ref w_MAX), .unset, .unset] [(.ref w_MIN)]) _
      refine XS.goto X7.here hx rfl (pc0 := 33) (pc' := 39) rfl (hb hby at_33) (by decide) (by decide) ?_
      show Go p e below T7 (mkF m 39 #[.val (.int p1), .val (.int (1 : Int32)), .val (.ref w_MAX), .unset, .unset] [(.ref w_MIN)]) _
      refine XS.astoreN X7.here hx rfl (hb hby at_39) rfl rfl (l' := #[.val (.int p1), .val (.int (1 : Int32)), .val (.ref w_MAX), .val (.ref w_MIN), .unset]) rfl ?_
      show Go p e below T7 (mkF m 40 #[.val (.int p1), .val (.int (1 : Int32)), .val (.ref w_MAX), .val (.ref w_MIN), .unset] []) _
      refine XS.aloadN X7.here hx rfl (hb hby at_40) rfl rfl ?_
      exact kt)
    obtain ⟨cq11, kq11, q11a, q11b, q11c⟩ := isOf hZ e7 (cx.2.1.ext O0.2)
    obtain ⟨_, _, ⟨T10, L10, k10, n10⟩, -, X10, ⟨Lc10, hQ10, l10, y10, z10⟩, st10⟩ := X7.virtualBack hx (y := (⟨"com/example/dido/dido/model/Direction", "opposite", "()Lcom/example/dido/dido/model/Direction;"⟩ : MethodName)) (z := (⟨"com/example/dido/dido/model/Direction", "opposite", "()Lcom/example/dido/dido/model/Direction;"⟩ : MethodName)) hown (mvT hZ (own_w hw 5 rfl)) (mvT hZ (own_w hw 6 rfl)) (notFace_of_selects (args := #[]) (mvT hZ (own_w hw 8 rfl))) (mvT hZ (own_w hw 8 rfl)) (mvT hZ (own_w hw 7 rfl)) (by decide) (backOf (W := 0) (rm1a l Z a0 hw [] cx  h0 n0 O0 ) hZ (own_w hw 9 rfl) (own_w hw 1 rfl) (by decide) (by decide)) q11a q11c (g := (mkF m 41 #[.val (.int p1), .val (.int (1 : Int32)), .val (.ref w_MAX), .val (.ref w_MIN), .unset] [(.ref w_MAX)])) rfl (by rw [hml]; rfl) (Steps.refl _) (argsL := []) (rest := []) (lenOf pd_0 rfl) rfl (by show 2 * 0 + _ ≤ _; exact Nat.le_of_eq rfl) (hb hby at_41) (fun _ _ => ⟨rfl, e7, (by decide : 0 + 0 ≤ _), (by decide : 0 + 0 ≤ _)⟩)
    dsimp only [Pt.U, Pt.locs, Pt.cells, Pt.slots] at X10 l10 y10 z10 st10 hQ10
    subst l10 y10 z10
    obtain ⟨rfl, Nq10, eq10⟩ := hQ10
    have N12 := Fr.app N0 Nq10
    have q13 := fun t (kt : Go p e below T10 (mkF m 44 #[.val (.int p1), .val (.int (1 : Int32)), .val (.ref w_MAX), .val (.ref w_MIN), .unset] [(.ref w_MIN)]) t) => q9 t (st10.trans kt)
    have q14 := fun t (kt : Go p e below T10 (mkF m 56 #[.val (.int p1), .val (.int (1 : Int32)), .val (.ref w_MAX), .val (.ref w_MIN), .val (.ref w_MIN)] [(.ref w_MIN)]) t) => q13 t (by
      show Go p e below T10 (mkF m 44 #[.val (.int p1), .val (.int (1 : Int32)), .val (.ref w_MAX), .val (.ref w_MIN), .unset] [(.ref w_MIN)]) _
      refine XS.astore X10.here hx rfl (hb hby at_44) rfl rfl (l' := #[.val (.int p1), .val (.int (1 : Int32)), .val (.ref w_MAX), .val (.ref w_MIN), .val (.ref w_MIN)]) rfl ?_
      show Go p e below T10 (mkF m 46 #[.val (.int p1), .val (.int (1 : Int32)), .val (.ref w_MAX), .val (.ref w_MIN), .val (.ref w_MIN)] []) _
      refine XS.aload X10.here hx rfl (hb hby at_46) rfl rfl ?_
      show Go p e below T10 (mkF m 48 #[.val (.int p1), .val (.int (1 : Int32)), .val (.ref w_MAX), .val (.ref w_MIN), .val (.ref w_MIN)] [(.ref w_MIN)]) _
      refine XS.aloadN X10.here hx rfl (hb hby at_48) rfl rfl ?_
      show Go p e below T10 (mkF m 49 #[.val (.int p1), .val (.int (1 : Int32)), .val (.ref w_MAX), .val (.ref w_MIN), .val (.ref w_MIN)] [(.ref w_MIN), (.ref w_MIN)]) _
      refine Jvm.RoadKit.acmp (g := (mkF m 49 #[.val (.int p1), .val (.int (1 : Int32)), .val (.ref w_MAX), .val (.ref w_MIN), .val (.ref w_MIN)] [(.ref w_MIN), (.ref w_MIN)])) X10 hx rfl rfl rfl (pc0 := 49) (pc' := 54) (same := true) rfl (hb hby at_49) rfl (decide_eq_true rfl) (by decide) (by decide) ?_
      show Go p e below T10 (mkF m 54 #[.val (.int p1), .val (.int (1 : Int32)), .val (.ref w_MAX), .val (.ref w_MIN), .val (.ref w_MIN)] []) _
      refine XS.aload X10.here hx rfl (hb hby at_54) rfl rfl ?_
      exact kt)
    obtain ⟨cq16, kq16, q16a, q16b, q16c⟩ := isOf hZ eq10 (cx.2.2.2.1.ext O0.2)
    obtain ⟨_, _, ⟨T15, L15, k15, n15⟩, -, X15, ⟨Lc15, hQ15, l15, y15, z15⟩, st15⟩ := X10.virtualBack hx (y := (⟨"com/example/dido/dido/model/Direction", "opposite", "()Lcom/example/dido/dido/model/Direction;"⟩ : MethodName)) (z := (⟨"com/example/dido/dido/model/Direction", "opposite", "()Lcom/example/dido/dido/model/Direction;"⟩ : MethodName)) hown (mvT hZ (own_w hw 5 rfl)) (mvT hZ (own_w hw 6 rfl)) (notFace_of_selects (args := #[]) (mvT hZ (own_w hw 8 rfl))) (mvT hZ (own_w hw 8 rfl)) (mvT hZ (own_w hw 7 rfl)) (by decide) (backOf (W := 0) (rm1b l Z a0 hw [] cx  h0 n0 O0 ) hZ (own_w hw 9 rfl) (own_w hw 1 rfl) (by decide) (by decide)) q16a q16c (g := (mkF m 56 #[.val (.int p1), .val (.int (1 : Int32)), .val (.ref w_MAX), .val (.ref w_MIN), .val (.ref w_MIN)] [(.ref w_MIN)])) rfl (by rw [hml]; rfl) (Steps.refl _) (argsL := []) (rest := []) (lenOf pd_0 rfl) rfl (by show 2 * 0 + _ ≤ _; exact Nat.le_of_eq rfl) (hb hby at_56) (fun _ _ => ⟨rfl, eq10, (by decide : 0 + 0 ≤ _), (by decide : 0 + 0 ≤ _)⟩)
    dsimp only [Pt.U, Pt.locs, Pt.cells, Pt.slots] at X15 l15 y15 z15 st15 hQ15
    subst l15 y15 z15
    obtain ⟨rfl, Nq15, eq15⟩ := hQ15
    have N17 := Fr.app N12 Nq15
    have q18 := fun t (kt : Go p e below T15 (mkF m 59 #[.val (.int p1), .val (.int (1 : Int32)), .val (.ref w_MAX), .val (.ref w_MIN), .val (.ref w_MIN)] [(.ref w_MAX)]) t) => q14 t (st15.trans kt)
    have q19 := fun t (kt : Go p e below T15 (mkF m 68 #[.val (.int p1), .val (.int (1 : Int32)), .val (.ref w_MAX), .val (.ref w_MIN), .val (.ref w_MIN)] [(.int (1 : Int32))]) t) => q18 t (by
      show Go p e below T15 (mkF m 59 #[.val (.int p1), .val (.int (1 : Int32)), .val (.ref w_MAX), .val (.ref w_MIN), .val (.ref w_MIN)] [(.ref w_MAX)]) _
      refine XS.aloadN X15.here hx rfl (hb hby at_59) rfl rfl ?_
      show Go p e below T15 (mkF m 60 #[.val (.int p1), .val (.int (1 : Int32)), .val (.ref w_MAX), .val (.ref w_MIN), .val (.ref w_MIN)] [(.ref w_MAX), (.ref w_MAX)]) _
      refine Jvm.RoadKit.acmp (g := (mkF m 60 #[.val (.int p1), .val (.int (1 : Int32)), .val (.ref w_MAX), .val (.ref w_MIN), .val (.ref w_MIN)] [(.ref w_MAX), (.ref w_MAX)])) X15 hx rfl rfl rfl (pc0 := 60) (pc' := 63) (same := true) rfl (hb hby at_60) rfl (decide_eq_true rfl) (by decide) (by decide) ?_
      show Go p e below T15 (mkF m 63 #[.val (.int p1), .val (.int (1 : Int32)), .val (.ref w_MAX), .val (.ref w_MIN), .val (.ref w_MIN)] []) _
      refine XS.iconst X15.here hx rfl (hb hby at_63) ?_
      show Go p e below T15 (mkF m 64 #[.val (.int p1), .val (.int (1 : Int32)), .val (.ref w_MAX), .val (.ref w_MIN), .val (.ref w_MIN)] [(.int (1 : Int32))]) _
      refine XS.goto X15.here hx rfl (pc0 := 64) (pc' := 68) rfl (hb hby at_64) (by decide) (by decide) ?_
      exact kt)
    exact ⟨some (.int (1 : Int32)), T15, _, _, _, _, X15, by decide, by decide, nofun, q19, fun fs hr => retN X15 hx (t := .boolean) hret (by simp) (hb hby at_68) hr, by rw [eq15]; exact ⟨rfl, N17⟩⟩
  · have q20 := fun t (kt : Go p e below s₁ (mkF m 22 #[.val (.int p1), .val (.int (0 : Int32)), .unset, .unset, .unset] []) t) => q1 t (by
      show Go p e below s₁ (mkF m 3 #[.val (.int p1), .unset, .unset, .unset, .unset] [(.int (p1 &&& (1 : Int32)))]) _
      refine XS.ifYes X0.here hx rfl (pc0 := 3) (pc' := 10) rfl (hb hby at_3) rfl ((if0 _ _).trans (feq hc2).2) (by decide) (by decide) ?_
      show Go p e below s₁ (mkF m 10 #[.val (.int p1), .unset, .unset, .unset, .unset] []) _
      refine XS.iconst X0.here hx rfl (hb hby at_10) ?_
      show Go p e below s₁ (mkF m 11 #[.val (.int p1), .unset, .unset, .unset, .unset] [(.int (0 : Int32))]) _
      refine XS.istoreN X0.here hx rfl (hb hby at_11) rfl (l' := #[.val (.int p1), .val (.int (0 : Int32)), .unset, .unset, .unset]) rfl ?_
      show Go p e below s₁ (mkF m 12 #[.val (.int p1), .val (.int (0 : Int32)), .unset, .unset, .unset] []) _
      refine XS.iloadN X0.here hx rfl (hb hby at_12) rfl ?_
      show Go p e below s₁ (mkF m 13 #[.val (.int p1), .val (.int (0 : Int32)), .unset, .unset, .unset] [(.int (0 : Int32))]) _
      refine XS.ifYes X0.here hx rfl (pc0 := 13) (pc' := 22) rfl (hb hby at_13) rfl ((if0 _ _).trans (teq (rfl : (0 : Int32) = (0 : Int32))).1) (by decide) (by decide) ?_
      exact kt)
    obtain ⟨T21, X21, e21, st21⟩ := getS2 X0 hx hZ hown (host := "") (Or.inl (own_w hw 3 rfl)) Via.refl e0 (cx.2.2.1.ext O0.2) (g := (mkF m 22 #[.val (.int p1), .val (.int (0 : Int32)), .unset, .unset, .unset] [])) rfl (hb hby at_22)
    have q22 := fun t (kt : Go p e below T21 (mkF m 25 #[.val (.int p1), .val (.int (0 : Int32)), .unset, .unset, .unset] [(.ref w_MIN)]) t) => q20 t (st21 t kt)
    have q23 := fun t (kt : Go p e below T21 (mkF m 36 #[.val (.int p1), .val (.int (0 : Int32)), .val (.ref w_MIN), .unset, .unset] []) t) => q22 t (by
      show Go p e below T21 (mkF m 25 #[.val (.int p1), .val (.int (0 : Int32)), .unset, .unset, .unset] [(.ref w_MIN)]) _
      refine XS.astoreN X21.here hx rfl (hb hby at_25) rfl rfl (l' := #[.val (.int p1), .val (.int (0 : Int32)), .val (.ref w_MIN), .unset, .unset]) rfl ?_
      show Go p e below T21 (mkF m 26 #[.val (.int p1), .val (.int (0 : Int32)), .val (.ref w_MIN), .unset, .unset] []) _
      refine XS.iloadN X21.here hx rfl (hb hby at_26) rfl ?_
      show Go p e below T21 (mkF m 27 #[.val (.int p1), .val (.int (0 : Int32)), .val (.ref w_MIN), .unset, .unset] [(.int (0 : Int32))]) _
      refine XS.ifYes X21.here hx rfl (pc0 := 27) (pc' := 36) rfl (hb hby at_27) rfl ((if0 _ _).trans (teq (rfl : (0 : Int32) = (0 : Int32))).1) (by decide) (by decide) ?_
      exact kt)
    obtain ⟨T24, X24, e24, st24⟩ := getS2 X21 hx hZ hown (host := "") (Or.inl (own_w hw 0 rfl)) Via.refl e21 (cx.1.ext O0.2) (g := (mkF m 36 #[.val (.int p1), .val (.int (0 : Int32)), .val (.ref w_MIN), .unset, .unset] [])) rfl (hb hby at_36)
    have q25 := fun t (kt : Go p e below T24 (mkF m 39 #[.val (.int p1), .val (.int (0 : Int32)), .val (.ref w_MIN), .unset, .unset] [(.ref w_MAX)]) t) => q23 t (st24 t kt)
    have q26 := fun t (kt : Go p e below T24 (mkF m 41 #[.val (.int p1), .val (.int (0 : Int32)), .val (.ref w_MIN), .val (.ref w_MAX), .unset] [(.ref w_MIN)]) t) => q25 t (by
      show Go p e below T24 (mkF m 39 #[.val (.int p1), .val (.int (0 : Int32)), .val (.ref w_MIN), .unset, .unset] [(.ref w_MAX)]) _
      refine XS.astoreN X24.here hx rfl (hb hby at_39) rfl rfl (l' := #[.val (.int p1), .val (.int (0 : Int32)), .val (.ref w_MIN), .val (.ref w_MAX), .unset]) rfl ?_
      show Go p e below T24 (mkF m 40 #[.val (.int p1), .val (.int (0 : Int32)), .val (.ref w_MIN), .val (.ref w_MAX), .unset] []) _
      refine XS.aloadN X24.here hx rfl (hb hby at_40) rfl rfl ?_
      exact kt)
    obtain ⟨cq28, kq28, q28a, q28b, q28c⟩ := isOf hZ e24 (cx.2.2.2.1.ext O0.2)
    obtain ⟨_, _, ⟨T27, L27, k27, n27⟩, -, X27, ⟨Lc27, hQ27, l27, y27, z27⟩, st27⟩ := X24.virtualBack hx (y := (⟨"com/example/dido/dido/model/Direction", "opposite", "()Lcom/example/dido/dido/model/Direction;"⟩ : MethodName)) (z := (⟨"com/example/dido/dido/model/Direction", "opposite", "()Lcom/example/dido/dido/model/Direction;"⟩ : MethodName)) hown (mvT hZ (own_w hw 5 rfl)) (mvT hZ (own_w hw 6 rfl)) (notFace_of_selects (args := #[]) (mvT hZ (own_w hw 8 rfl))) (mvT hZ (own_w hw 8 rfl)) (mvT hZ (own_w hw 7 rfl)) (by decide) (backOf (W := 0) (rm1b l Z a0 hw [] cx  h0 n0 O0 ) hZ (own_w hw 9 rfl) (own_w hw 1 rfl) (by decide) (by decide)) q28a q28c (g := (mkF m 41 #[.val (.int p1), .val (.int (0 : Int32)), .val (.ref w_MIN), .val (.ref w_MAX), .unset] [(.ref w_MIN)])) rfl (by rw [hml]; rfl) (Steps.refl _) (argsL := []) (rest := []) (lenOf pd_0 rfl) rfl (by show 2 * 0 + _ ≤ _; exact Nat.le_of_eq rfl) (hb hby at_41) (fun _ _ => ⟨rfl, e24, (by decide : 0 + 0 ≤ _), (by decide : 0 + 0 ≤ _)⟩)
    dsimp only [Pt.U, Pt.locs, Pt.cells, Pt.slots] at X27 l27 y27 z27 st27 hQ27
    subst l27 y27 z27
    obtain ⟨rfl, Nq27, eq27⟩ := hQ27
    have N29 := Fr.app N0 Nq27
    have q30 := fun t (kt : Go p e below T27 (mkF m 44 #[.val (.int p1), .val (.int (0 : Int32)), .val (.ref w_MIN), .val (.ref w_MAX), .unset] [(.ref w_MAX)]) t) => q26 t (st27.trans kt)
    have q31 := fun t (kt : Go p e below T27 (mkF m 56 #[.val (.int p1), .val (.int (0 : Int32)), .val (.ref w_MIN), .val (.ref w_MAX), .val (.ref w_MAX)] [(.ref w_MAX)]) t) => q30 t (by
      show Go p e below T27 (mkF m 44 #[.val (.int p1), .val (.int (0 : Int32)), .val (.ref w_MIN), .val (.ref w_MAX), .unset] [(.ref w_MAX)]) _
      refine XS.astore X27.here hx rfl (hb hby at_44) rfl rfl (l' := #[.val (.int p1), .val (.int (0 : Int32)), .val (.ref w_MIN), .val (.ref w_MAX), .val (.ref w_MAX)]) rfl ?_
      show Go p e below T27 (mkF m 46 #[.val (.int p1), .val (.int (0 : Int32)), .val (.ref w_MIN), .val (.ref w_MAX), .val (.ref w_MAX)] []) _
      refine XS.aload X27.here hx rfl (hb hby at_46) rfl rfl ?_
      show Go p e below T27 (mkF m 48 #[.val (.int p1), .val (.int (0 : Int32)), .val (.ref w_MIN), .val (.ref w_MAX), .val (.ref w_MAX)] [(.ref w_MAX)]) _
      refine XS.aloadN X27.here hx rfl (hb hby at_48) rfl rfl ?_
      show Go p e below T27 (mkF m 49 #[.val (.int p1), .val (.int (0 : Int32)), .val (.ref w_MIN), .val (.ref w_MAX), .val (.ref w_MAX)] [(.ref w_MAX), (.ref w_MAX)]) _
      refine Jvm.RoadKit.acmp (g := (mkF m 49 #[.val (.int p1), .val (.int (0 : Int32)), .val (.ref w_MIN), .val (.ref w_MAX), .val (.ref w_MAX)] [(.ref w_MAX), (.ref w_MAX)])) X27 hx rfl rfl rfl (pc0 := 49) (pc' := 54) (same := true) rfl (hb hby at_49) rfl (decide_eq_true rfl) (by decide) (by decide) ?_
      show Go p e below T27 (mkF m 54 #[.val (.int p1), .val (.int (0 : Int32)), .val (.ref w_MIN), .val (.ref w_MAX), .val (.ref w_MAX)] []) _
      refine XS.aload X27.here hx rfl (hb hby at_54) rfl rfl ?_
      exact kt)
    obtain ⟨cq33, kq33, q33a, q33b, q33c⟩ := isOf hZ eq27 (cx.2.1.ext O0.2)
    obtain ⟨_, _, ⟨T32, L32, k32, n32⟩, -, X32, ⟨Lc32, hQ32, l32, y32, z32⟩, st32⟩ := X27.virtualBack hx (y := (⟨"com/example/dido/dido/model/Direction", "opposite", "()Lcom/example/dido/dido/model/Direction;"⟩ : MethodName)) (z := (⟨"com/example/dido/dido/model/Direction", "opposite", "()Lcom/example/dido/dido/model/Direction;"⟩ : MethodName)) hown (mvT hZ (own_w hw 5 rfl)) (mvT hZ (own_w hw 6 rfl)) (notFace_of_selects (args := #[]) (mvT hZ (own_w hw 8 rfl))) (mvT hZ (own_w hw 8 rfl)) (mvT hZ (own_w hw 7 rfl)) (by decide) (backOf (W := 0) (rm1a l Z a0 hw [] cx  h0 n0 O0 ) hZ (own_w hw 9 rfl) (own_w hw 1 rfl) (by decide) (by decide)) q33a q33c (g := (mkF m 56 #[.val (.int p1), .val (.int (0 : Int32)), .val (.ref w_MIN), .val (.ref w_MAX), .val (.ref w_MAX)] [(.ref w_MAX)])) rfl (by rw [hml]; rfl) (Steps.refl _) (argsL := []) (rest := []) (lenOf pd_0 rfl) rfl (by show 2 * 0 + _ ≤ _; exact Nat.le_of_eq rfl) (hb hby at_56) (fun _ _ => ⟨rfl, eq27, (by decide : 0 + 0 ≤ _), (by decide : 0 + 0 ≤ _)⟩)
    dsimp only [Pt.U, Pt.locs, Pt.cells, Pt.slots] at X32 l32 y32 z32 st32 hQ32
    subst l32 y32 z32
    obtain ⟨rfl, Nq32, eq32⟩ := hQ32
    have N34 := Fr.app N29 Nq32
    have q35 := fun t (kt : Go p e below T32 (mkF m 59 #[.val (.int p1), .val (.int (0 : Int32)), .val (.ref w_MIN), .val (.ref w_MAX), .val (.ref w_MAX)] [(.ref w_MIN)]) t) => q31 t (st32.trans kt)
    have q36 := fun t (kt : Go p e below T32 (mkF m 68 #[.val (.int p1), .val (.int (0 : Int32)), .val (.ref w_MIN), .val (.ref w_MAX), .val (.ref w_MAX)] [(.int (1 : Int32))]) t) => q35 t (by
      show Go p e below T32 (mkF m 59 #[.val (.int p1), .val (.int (0 : Int32)), .val (.ref w_MIN), .val (.ref w_MAX), .val (.ref w_MAX)] [(.ref w_MIN)]) _
      refine XS.aloadN X32.here hx rfl (hb hby at_59) rfl rfl ?_
      show Go p e below T32 (mkF m 60 #[.val (.int p1), .val (.int (0 : Int32)), .val (.ref w_MIN), .val (.ref w_MAX), .val (.ref w_MAX)] [(.ref w_MIN), (.ref w_MIN)]) _
      refine Jvm.RoadKit.acmp (g := (mkF m 60 #[.val (.int p1), .val (.int (0 : Int32)), .val (.ref w_MIN), .val (.ref w_MAX), .val (.ref w_MAX)] [(.ref w_MIN), (.ref w_MIN)])) X32 hx rfl rfl rfl (pc0 := 60) (pc' := 63) (same := true) rfl (hb hby at_60) rfl (decide_eq_true rfl) (by decide) (by decide) ?_
      show Go p e below T32 (mkF m 63 #[.val (.int p1), .val (.int (0 : Int32)), .val (.ref w_MIN), .val (.ref w_MAX), .val (.ref w_MAX)] []) _
      refine XS.iconst X32.here hx rfl (hb hby at_63) ?_
      show Go p e below T32 (mkF m 64 #[.val (.int p1), .val (.int (0 : Int32)), .val (.ref w_MIN), .val (.ref w_MAX), .val (.ref w_MAX)] [(.int (1 : Int32))]) _
      refine XS.goto X32.here hx rfl (pc0 := 64) (pc' := 68) rfl (hb hby at_64) (by decide) (by decide) ?_
      exact kt)
    exact ⟨some (.int (1 : Int32)), T32, _, _, _, _, X32, by decide, by decide, nofun, q36, fun fs hr => retN X32 hx (t := .boolean) hret (by simp) (hb hby at_68) hr, by rw [eq32]; exact ⟨rfl, N34⟩⟩
theorem comes_1 {Post : Tables → Env → Array Value → State → Outcome → State → Prop} (hpost : ∀ tb e args s v u, (limb_1_1.after args s (.returned v) u = true ∧ limb_1_2.after args s (.returned v) u = true ∧ True) → FrameEnd s (.returned v) u (Jvm.fieldLocs frame_1_writes args s ++ Jvm.arrayLocs frame_1_arrays args s ++ Jvm.staticLocs frame_1_statics s) 0 0 → Post tb e args s (.returned v) u) :
    ArmFor flags0 classFile x code maxLocals ret World_1 tables_1 room_1 Calls_1 rest_1 Pre_1 Post := by
  intro l hfl _ _ p e ha hc hk s m args below hf hA hF happ hP
  obtain ⟨hcalls, hrest, hpre⟩ := hP
  obtain ⟨-, -, -, hnamed, -, -, -, hat⟩ := (Spec.applies_iff hf).mp happ
  obtain ⟨hg, hn⟩ := and_e (Cond.before_iff.mp (show (Jvm.Cond.and given_1 narrow_1).before args s = true from hpre))
  obtain ⟨gg1, gg2⟩ := and_e hg
  obtain ⟨w0, rfl⟩ : ∃ w0 : Value, args = #[w0] := by
    have hs : args.size = 1 := by simpa [Cond.value, given_1] using gg1
    obtain ⟨L⟩ := args
    match L, hs with
    | [w0], _ => exact ⟨w0, rfl⟩
  have hw := fun d (hd : d ∈ tables_1) => atoms_spec (ws := Jvm.Cond.code x code maxLocals ret :: tables_1) hat d (List.mem_cons_of_mem _ hd)
  have hfit : Fit s := fun {y c} hc i hi => by
    obtain ⟨ha, rfl⟩ := Array.getElem?_eq_some_iff.mp hc
    have q := List.all_eq_true.mp ((Array.all_eq_true_iff_forall_mem.mp hF) _ (Array.getElem_mem ha)) i (List.mem_range.mpr hi)
    simpa [Array.getElem?_eq_getElem hi] using q
  obtain ⟨i0, ei0⟩ := is_v gg2
  obtain rfl : w0 = (.int i0) := Option.some.inj ei0
  obtain ⟨nn1, nn2⟩ := and_e hn
  obtain ⟨nn3, nn4⟩ := and_e nn2
  obtain ⟨nn5, nn6⟩ := and_e nn4
  obtain ⟨w_MAX, ev_w_MAX⟩ := exa_v nn1
  obtain ⟨w_MIN, ev_w_MIN⟩ := exa_v nn3
  have cx : Cx s w_MAX w_MIN := ⟨(Sta.start ev_w_MAX (Or.inr ⟨(own_w hw 1 rfl), (own_w hw 2 rfl)⟩)), (Exa.start ev_w_MAX nn1), (Sta.start ev_w_MIN (Or.inr ⟨(own_w hw 1 rfl), (own_w hw 4 rfl)⟩)), (Exa.start ev_w_MIN nn3), (own_fldI ev_w_MIN nn5), (own_fldI ev_w_MAX nn6), (Fld.ne (own_fldI ev_w_MAX nn6) (own_fldI ev_w_MIN nn5) (by decide))⟩
  obtain ⟨n, o, h1, h2, h3, _, L, rfl, ⟨rfl, N⟩, hq⟩ := rm0 l s _ hw tables_1 cx i0 s.heap s.heap.size (Old.start s)  p e ha hc hk s m _ below hf ((Spec.applies_iff_loose hf).mp happ).1 ⟨rfl, State.Warmed39.refl s, rfl⟩ trivial
  refine ⟨n, _, h1, h2, h3, hpost _ _ _ _ _ _ ⟨Cond.after_iff.mpr rfl, Cond.after_iff.mpr (eq_i res_at (Term.int_eval (1)) rfl), trivial⟩ ⟨hq.1, hq.2.1, (hq.2.2.sift fun y hy => Or.inr (N y hy)).mono (by decide) (by decide)⟩⟩
theorem main_1_1 : Claimed_1_1 := comes_1 fun _ _ _ _ _ _ h hF => ⟨h.1, hF⟩
theorem main_1_2 : Claimed_1_2 := comes_1 fun _ _ _ _ _ _ h hF => ⟨h.2.1, hF⟩
end Jvm.Pilot.@@N@@
namespace Jvm.Pilot.@@N@@
open Jvm Jvm.ClassFile Sem Op Lib Jvm.Free Jvm.Stand Jvm.Pilot.@@N@@.Jvm.D
/-! MADE BY PROGRAM (witnessworld.py) out of the Statement's table words and the real class files: 12 classes; the members and pool entries that the words name. The judged class is class 1, her method 1. -/
namespace start1
open Jvm.ClassFile
def u (s : String) : CpInfo := .utf8 (stringToUtf16 s)
/-- a pool by its gaps: so many unusable entries, then the entry; so many at the end -/
def gap : Nat → List CpInfo → List CpInfo
  | 0, r => r
  | n + 1, r => .unusable :: gap n r
def poolList (es : List (Nat × CpInfo)) (last : Nat) : List CpInfo := es.foldr (fun e r => gap e.1 (e.2 :: r)) (gap last [])
def pool (es : List (Nat × CpInfo)) (last : Nat) : Array CpInfo := ⟨poolList es last⟩
def fileOf (pool : Array CpInfo) (this : Nat) (attrs : Array Attribute := #[]) (ms : Array MethodInfo := #[]) (fl : Nat := 33) (sup : Nat := 0) (ifs : Array Nat := #[]) (fds : Array FieldInfo := #[]) : ClassFile where
  minorVersion := 0
  majorVersion := 65
  constantPool := pool
  accessFlags := fl
  thisClass := this
  superClass := sup
  interfaces := ifs
  fields := fds
  methods := ms
  attributes := attrs
def plain (name : String) (sup : Option ClassId) : Class where
  name := name
  kind := .ordinary
  loader := none
  accessFlags := 33
  super := sup
  interfaces := #[]
  cf := none
  fields := #[]
  methods := #[]
  instanceTypes := #[]
  staticTypes := #[]
  resolved := #[]
  callSites := []
  init := .initialized
  statics := none
  mirror := none

def pool0 : Array CpInfo := pool [(5, u "<init>"), (0, u "()V"), (1, .class_ 10), (1, u "java/lang/Object")] 113

def k0m0 : Method := { name := "<init>", desc := "()V", sig := { parameters := [], returnType := none }, accessFlags := 1, code := none }
/-- java/lang/Object -/
def k0 : Class := { plain "java/lang/Object" none with
  accessFlags := 33
  interfaces := #[]
  cf := some (fileOf pool0 8 #[] #[{ accessFlags := 1, nameIndex := 5, descriptorIndex := 6, attributes := #[] }] 33 0 #[] #[])
  fields := #[]
  methods := #[k0m0]
  instanceTypes := #[]
  staticTypes := #[]
  resolved := Array.replicate 124 none
  statics := none }

def pool1 : Array CpInfo := pool [(2, .class_ 4), (1, u "java/lang/Object"), (0, u "<init>"), (0, u "()V"), (0, .fieldref 8 9), (0, .class_ 10), (0, .nameAndType 11 12), (0, u "com/example/dido/dido/model/Direction"), (0, u "MAX"), (0, u "Lcom/example/dido/dido/model/Direction;"), (0, .fieldref 8 14), (0, .nameAndType 15 12), (0, u "MIN"), (0, .methodref 8 17), (0, .nameAndType 18 19), (0, u "opposite"), (0, u "()Lcom/example/dido/dido/model/Direction;"), (0, .class_ 21), (0, u "com/example/dido/dido/model/DirectionOppositePinLaw"), (2, u "law"), (0, u "(I)Z")] 3

def k1m0 : Method := { name := "<init>", desc := "()V", sig := { parameters := [], returnType := none }, accessFlags := 1, code := none }
def k1c1 : Code := { maxStack := 2, maxLocals := 5, code := code, exceptionTable := #[], attributes := #[] }
def k1m1 : Method := { name := "law", desc := "(I)Z", sig := { parameters := [.int], returnType := some .boolean }, accessFlags := 9, code := some k1c1 }
/-- com/example/dido/dido/model/DirectionOppositePinLaw -/
def k1 : Class := { plain "com/example/dido/dido/model/DirectionOppositePinLaw" (some 0) with
  accessFlags := 49
  interfaces := #[]
  cf := some (fileOf pool1 20 #[] #[{ accessFlags := 1, nameIndex := 5, descriptorIndex := 6, attributes := #[] }, { accessFlags := 9, nameIndex := 24, descriptorIndex := 25, attributes := #[] }] 49 2 #[] #[])
  fields := #[]
  methods := #[k1m0, k1m1]
  instanceTypes := #[]
  staticTypes := #[]
  resolved := Array.replicate 29 none
  statics := none }

def pool2 : Array CpInfo := pool [(1, .class_ 2), (0, u "java/lang/constant/Constable"), (0, .class_ 4), (0, u "java/lang/Object")] 6

/-- java/lang/constant/Constable -/
def k2 : Class := { plain "java/lang/constant/Constable" (some 0) with
  accessFlags := 1537
  interfaces := #[]
  cf := some (fileOf pool2 1 #[] #[] 1537 3 #[] #[])
  fields := #[]
  methods := #[]
  instanceTypes := #[]
  staticTypes := #[]
  resolved := Array.replicate 11 none
  statics := none }

def pool3 : Array CpInfo := pool [(1, .class_ 2), (0, u "java/lang/Comparable"), (0, .class_ 4), (0, u "java/lang/Object")] 7

/-- java/lang/Comparable -/
def k3 : Class := { plain "java/lang/Comparable" (some 0) with
  accessFlags := 1537
  interfaces := #[]
  cf := some (fileOf pool3 1 #[] #[] 1537 3 #[] #[])
  fields := #[]
  methods := #[]
  instanceTypes := #[]
  staticTypes := #[]
  resolved := Array.replicate 12 none
  statics := none }

def pool4 : Array CpInfo := pool [(1, .class_ 2), (0, u "java/io/Serializable"), (0, .class_ 4), (0, u "java/lang/Object")] 2

/-- java/io/Serializable -/
def k4 : Class := { plain "java/io/Serializable" (some 0) with
  accessFlags := 1537
  interfaces := #[]
  cf := some (fileOf pool4 1 #[] #[] 1537 3 #[] #[])
  fields := #[]
  methods := #[]
  instanceTypes := #[]
  staticTypes := #[]
  resolved := Array.replicate 7 none
  statics := none }

def pool5 : Array CpInfo := pool [(2, .class_ 4), (1, u "java/lang/Enum"), (0, u "name"), (0, u "Ljava/lang/String;"), (2, u "ordinal"), (0, u "I"), (1, .class_ 14), (1, u "java/lang/Object"), (4, u "hash"), (86, .class_ 108), (1, u "java/lang/Enum$EnumDesc"), (2, .class_ 112), (0, u "java/lang/constant/Constable"), (0, .class_ 114), (0, u "java/lang/Comparable"), (0, .class_ 116), (0, u "java/io/Serializable")] 87

/-- java/lang/Enum -/
def k5 : Class := { plain "java/lang/Enum" (some 0) with
  accessFlags := 1057
  interfaces := #[2, 3, 4]
  cf := some (fileOf pool5 2 #[.nestMembers #[106]] #[] 1057 12 #[111, 113, 115] #[{ accessFlags := 18, nameIndex := 5, descriptorIndex := 6, attributes := #[] }, { accessFlags := 18, nameIndex := 9, descriptorIndex := 10, attributes := #[] }, { accessFlags := 2, nameIndex := 19, descriptorIndex := 10, attributes := #[] }])
  fields := #[{ name := "name", type := (.object "java/lang/String"), accessFlags := 18, slot := 0, constantValue := 0 }, { name := "ordinal", type := .int, accessFlags := 18, slot := 1, constantValue := 0 }, { name := "hash", type := .int, accessFlags := 2, slot := 2, constantValue := 0 }]
  methods := #[]
  instanceTypes := #[(.object "java/lang/String"), .int, .int]
  staticTypes := #[]
  resolved := Array.replicate 204 none
  statics := none }

def pool6 : Array CpInfo := pool [(1, .class_ 2), (0, u "com/example/dido/dido/model/Direction"), (0, .fieldref 1 4), (0, .nameAndType 5 6), (0, u "MAX"), (0, u "Lcom/example/dido/dido/model/Direction;"), (0, .fieldref 1 8), (0, .nameAndType 9 6), (0, u "MIN"), (2, u "$VALUES"), (0, u "[Lcom/example/dido/dido/model/Direction;"), (6, .class_ 22), (1, u "java/lang/Enum"), (20, u "opposite"), (0, u "()Lcom/example/dido/dido/model/Direction;")] 5

def k6c0 : Code := { maxStack := 2, maxLocals := 1, code := prog_36_method_4_code, exceptionTable := #[], attributes := #[] }
def k6m0 : Method := { name := "opposite", desc := "()Lcom/example/dido/dido/model/Direction;", sig := { parameters := [], returnType := some (.object "com/example/dido/dido/model/Direction") }, accessFlags := 1, code := some k6c0 }
/-- com/example/dido/dido/model/Direction -/
def k6 : Class := { plain "com/example/dido/dido/model/Direction" (some 5) with
  accessFlags := 16433
  interfaces := #[]
  cf := some (fileOf pool6 1 #[] #[{ accessFlags := 1, nameIndex := 43, descriptorIndex := 44, attributes := #[] }] 16433 20 #[] #[{ accessFlags := 16409, nameIndex := 5, descriptorIndex := 6, attributes := #[] }, { accessFlags := 16409, nameIndex := 9, descriptorIndex := 6, attributes := #[] }, { accessFlags := 4122, nameIndex := 12, descriptorIndex := 13, attributes := #[] }])
  fields := #[{ name := "MAX", type := (.object "com/example/dido/dido/model/Direction"), accessFlags := 16409, slot := 0, constantValue := 0 }, { name := "MIN", type := (.object "com/example/dido/dido/model/Direction"), accessFlags := 16409, slot := 1, constantValue := 0 }, { name := "$VALUES", type := (.array (.object "com/example/dido/dido/model/Direction")), accessFlags := 4122, slot := 2, constantValue := 0 }]
  methods := #[k6m0]
  instanceTypes := #[(.object "java/lang/String"), .int, .int]
  staticTypes := #[(.object "com/example/dido/dido/model/Direction"), (.object "com/example/dido/dido/model/Direction"), (.array (.object "com/example/dido/dido/model/Direction"))]
  resolved := Array.replicate 50 none
  statics := some 0 }

def pool7 : Array CpInfo := pool [(1, u "java/lang/Cloneable"), (0, .class_ 1), (0, u "java/lang/Object"), (0, .class_ 3)] 3

/-- java/lang/Cloneable -/
def k7 : Class := { plain "java/lang/Cloneable" (some 0) with
  accessFlags := 1537
  interfaces := #[]
  cf := some (fileOf pool7 2 #[] #[] 1537 4 #[] #[])
  fields := #[]
  methods := #[]
  instanceTypes := #[]
  staticTypes := #[]
  resolved := Array.replicate 8 none
  statics := none }

/-- the primitive byte -/
def k8 : Class := { plain "byte" none with kind := .primitive 'B', accessFlags := 0x411 }
/-- [B -/
def k9 : Class := { plain "[B" (some 0) with kind := .array 8 .byte, interfaces := #[7, 4], accessFlags := 1041 }

/-- the primitive int -/
def k10 : Class := { plain "int" none with kind := .primitive 'I', accessFlags := 0x411 }
/-- [I -/
def k11 : Class := { plain "[I" (some 0) with kind := .array 10 .int, interfaces := #[7, 4], accessFlags := 1041 }

def heap : Heap := #[{ cls := 6, slots := #[.ref 1, .ref 2, .null], vm := .statics 6 },
  { cls := 6, slots := #[.null, .int 0, .int 0], vm := .none },
  { cls := 6, slots := #[.null, .int 1, .int 0], vm := .none }]
def classes : Array Class := #[k0, k1, k2, k3, k4, k5, k6, k7, k8, k9, k10, k11]
def interned : List (Array UInt16 × Addr) := []
def slotsUsed : Nat := 9
def theMethod : MethodId := ⟨1, 1⟩
def args0 : Array Value := #[.int 5]
def aboutOver (below : List Frame) : State where
  vm := { classes := classes, interned := interned.toArray }
  heap := heap
  slotsUsed := slotsUsed
  threads := #[{ frames := .invoking theMethod args0 :: below }]
def below0 : List Frame := [.native { method := ⟨0, 0⟩, args := #[] }]
def about1 : State := aboutOver below0
def p0 : Program := .bare "" "" ""
def e0 : Env := launch0.env 0 0 0
theorem w_frames : about1.frames = Frame.invoking theMethod args0 :: below0 := rfl
set_option maxRecDepth 65536 in
theorem w_args : argsFit about1.vm theMethod args0 = true := by decide +kernel
set_option maxRecDepth 65536 in
theorem w_heap : heapFits about1 = true := by decide +kernel
set_option maxRecDepth 65536 in
theorem w_runnable : about1.curStatus? = some .runnable := by decide +kernel
set_option maxRecDepth 65536 in
theorem w_alone : about1.alone = true := by decide +kernel
set_option maxRecDepth 65536 in
theorem w_named : about1.methodNamed? x = some theMethod := by decide +kernel
set_option maxRecDepth 65536 in
theorem w_hears : about1.hears theMethod below0 = true := by decide +kernel
set_option maxRecDepth 65536 in
theorem w_ripe : about1.ripe theMethod args0 below0 = true := by decide +kernel
theorem w_running : about1.status = .running := rfl
set_option maxRecDepth 65536 in
theorem w_room : about1.hasRoom e0.platform room_1 = true :=
  launch0.hasRoom_least _ room_1 (by decide +kernel) (by decide +kernel) (by decide +kernel) (by decide +kernel) (by decide +kernel) (by decide +kernel)
theorem allAtoms_all (ts : List Jvm.Cond) (a : Array Jvm.Value) (st : Jvm.State) : (allAtoms ts).before a st = ts.all (fun c => c.before a st) := by
  induction ts with
  | nil => rfl
  | cons c t ih =>
    show (Jvm.Cond.and c (allAtoms t)).before a st = _
    rw [Jvm.Cond.before_and, ih, List.all_cons]
def words1 : List Jvm.Cond := Jvm.Cond.code x code maxLocals ret :: tables_1
/-- a 'code' word, met by the world's own term for the bytes: nothing is compared byte by byte -/
theorem code_word {y : MethodName} {bytes : ByteArray} {mx : Nat} {rt : Option FieldType} {a : Array Value} {s : State} {m : MethodId} {meth : Method} {c : Code} (h1 : s.methodNamed? y = some m) (h2 : s.vm.method? m = some meth) (h3 : meth.code = some c) (h4 : c.code = bytes)
    (h5 : (c.maxLocals == mx && c.exceptionTable.isEmpty && decide (c.maxStack ≤ mostOperands) && decide (meth.sig.returnType = rt) && !meth.locks && decide (parseMethodDescriptor y.desc = some meth.sig)) = true) : (Jvm.Cond.code y bytes mx rt).before a s = true := by
  simp only [Bool.and_eq_true, beq_iff_eq, Bool.not_eq_true', decide_eq_true_eq] at h5
  obtain ⟨⟨⟨⟨⟨g1, g2⟩, g3⟩, g4⟩, g5⟩, g6⟩ := h5
  simp [Cond.before, Cond.holds, Cond.value, h1, h2, h3, h4, g1, g2, g3, g4, g5, g6]
def isCode : Jvm.Cond → Bool
  | .code _ _ _ _ => true
  | _ => false
theorem all_split {L : List Jvm.Cond} {P : Jvm.Cond → Bool} (h1 : L.all (fun c => isCode c || P c) = true) (h2 : ∀ c ∈ L.filter isCode, P c = true) : L.all P = true := by
  refine List.all_eq_true.mpr fun c hc => ?_
  have h := List.all_eq_true.mp h1 c hc
  rcases Bool.eq_false_or_eq_true (isCode c) with hi | hi
  · exact h2 c (List.mem_filter.mpr ⟨hc, hi⟩)
  · simpa [hi] using h
set_option maxRecDepth 65536 in
theorem w_c0 : (Jvm.Cond.code x code maxLocals ret).before args0 about1 = true := code_word (m := ⟨1, 1⟩) (meth := k1m1) (c := k1c1) (by decide +kernel) rfl rfl rfl (by decide +kernel)
set_option maxRecDepth 65536 in
theorem w_c1 : (Jvm.Cond.code ({ cls := "com/example/dido/dido/model/Direction", name := "opposite", desc := "()Lcom/example/dido/dido/model/Direction;" } : Jvm.MethodName) prog_36_method_4_code (1 : Nat) (Option.some (Jvm.ClassFile.FieldType.object "com/example/dido/dido/model/Direction"))).before args0 about1 = true := code_word (m := ⟨6, 0⟩) (meth := k6m0) (c := k6c0) (by decide +kernel) rfl rfl rfl (by decide +kernel)
def codes1 : List Jvm.Cond := [Jvm.Cond.code x code maxLocals ret, Jvm.Cond.code ({ cls := "com/example/dido/dido/model/Direction", name := "opposite", desc := "()Lcom/example/dido/dido/model/Direction;" } : Jvm.MethodName) prog_36_method_4_code (1 : Nat) (Option.some (Jvm.ClassFile.FieldType.object "com/example/dido/dido/model/Direction"))]
set_option maxRecDepth 65536 in
theorem codes_eq : words1.filter isCode = codes1 := rfl
theorem w_codes : ∀ c ∈ words1.filter isCode, c.before args0 about1 = true := by
  rw [codes_eq]
  intro c hc
  simp only [codes1, List.mem_cons, List.not_mem_nil, or_false] at hc
  rcases hc with rfl | rfl
  · exact w_c0
  · exact w_c1
set_option maxRecDepth 65536 in
theorem w_t1 : words1.all (fun c => isCode c || c.before args0 about1) = true := by decide +kernel
theorem w_tables : (allAtoms (Jvm.Cond.code x code maxLocals ret :: tables_1)).before args0 about1 = true := by
  rw [allAtoms_all]
  show words1.all (fun c => c.before args0 about1) = true
  refine all_split ?_ w_codes
  rw [w_t1]
set_option maxRecDepth 65536 in
theorem w_case : (Jvm.Cond.and given_1 narrow_1).before args0 about1 = true := by decide +kernel
theorem w_applies : (headSpec (Jvm.Cond.code x code maxLocals ret :: tables_1) room_1).applies x e0.platform about1 = true :=
  (Spec.applies_iff w_frames).mpr ⟨w_running, w_runnable, w_alone, w_named, w_hears, w_ripe, w_room, w_tables⟩
theorem atStart : AtStart classFile x code maxLocals ret World_1 tables_1 room_1 Calls_1 rest_1 Pre_1 launch0 p0 e0 about1 theMethod args0 below0 :=
  ⟨lists_1, trivial, launch0.admits_env _ _ _, launch0.least_env, fairChoices_fair.cas, fairChoices_fair.clock, w_frames, w_args, w_heap, w_applies, trivial, trivial, w_case⟩
end start1
theorem witness_1 : WitnessClaimed_1 := ⟨start1.p0, start1.e0, start1.about1, start1.theMethod, start1.args0, start1.below0, start1.atStart⟩
end Jvm.Pilot.@@N@@
