import JvmDerived
import JvmDerived.Pilot.@@N@@Statement
import JvmDerived.Pilot.@@N@@Code
set_option linter.unusedVariables false
set_option linter.unusedSimpArgs false
set_option maxRecDepth 65536
set_option maxHeartbeats 40000000
namespace Jvm.RoadKit
open Sem ClassFile Op Lib Jvm.Stand Jvm.Free Jvm.LawKit
section New
variable {p : Program} {l : Launch} {e : Env} {R : Room} {s : State} {m : MethodId} {args : Array Value} {below : List Frame} {meth : Method} {c : Code} {T : State} {locs : List Loc} {cells slots : Nat}
theorem retI (X : Stand p l e R s m args below meth c T locs cells slots) (hx : p.tables.exec = Jvm.exec) {pc : Nat} {Ls : Array Slot} {z : Int32} {rest : List Value} (hret : meth.sig.returnType = some .int) (hd : decode c.code pc = .ok (.ireturn, 1)) {fs : List Frame}
    (hl : ∀ (f : JFrame) (acts : List Action), f.method = m → f.locked = none → f.entered = [] → (doReturn e (T.setTop f) acts (some (.int z))).1 = T.setFrames fs) : Steps p.tables e below (T.setTop (mkF m pc Ls (.int z :: rest))) (T.setFrames fs) := by
  have hm' : T.vm.method? m = some meth := X.method'
  have hn : narrow .int (.int z) = .int z := rfl
  show Steps p.tables e below (T.setTop { method := m, pc := pc, locals := Ls, stack := _ :: rest, locked := none }) _
  jvm_step X.here [X.here.top, hx, hd, hm', hret, hn]
  first | (intro acts; rw [hl _ acts rfl rfl rfl]) | rw [hl _ _ rfl rfl rfl]
  exact Steps.refl _
end New
end Jvm.RoadKit
namespace Jvm.Pilot.@@N@@
open Jvm Jvm.ClassFile Sem Op Lib Jvm.Free Jvm.Stand Jvm.LawKit Jvm.RoadKit Bundle Jvm.Pilot.@@N@@.Jvm.D
theorem own_w {Z : State} {a0 : Array Value} (hw : ∀ d ∈ tables_1, d.before a0 Z = true) (k : Nat) {d : Jvm.Cond} (h : tables_1[k]? = some d) : d.before a0 Z = true := hw _ (List.mem_of_getElem? h)
abbrev own_R (f c s l : Nat) : Room := { frames := f, cells := c, slots := s, locals := l }
abbrev vU : Slot := .unset
abbrev vS : Slot := .second
abbrev vN : Slot := .val .null
abbrev vI (x : Int32) : Slot := .val (.int x)
abbrev vJ (x : Int64) : Slot := .val (.long x)
abbrev vR (x : Addr) : Slot := .val (.ref x)
abbrev vV (x : Value) : Slot := .val x
abbrev Go (p : Program) (e : Env) (below : List Frame) (T : State) (f : JFrame) (t : State) : Prop := Steps p.tables e below (T.setTop f) t
theorem own_narR {v : Value} (t : FieldType) (ht : t.isReference = true) (hv : v.isRef = true) : narrow t v = v := by cases t <;> cases v <;> simp_all [narrow, FieldType.isReference, Value.isRef]
abbrev OwnMet (l : Launch) (y : MethodName) (ws : List Jvm.Cond) (rm : Room) (A : Array Value) (Z : State) (h0 : Heap) (Q : Option Value → Heap → List Loc → Prop) : Prop :=
  MetFree l y (head1 ws rm) (fun a U => a = A ∧ Z.Warmed39 U.vm ∧ U.heap = h0) (fun _ _ _ _ _ => True) (fun _ U o U' => ∃ v L, o = .returned v ∧ Q v U'.heap L ∧ FrameEnd U o U' L rm.cells rm.slots)
theorem own_body {l : Launch} {y : MethodName} {ws : List Jvm.Cond} {rm : Room} {bytes : ByteArray} {maxL : Nat} {ret : Option FieldType} {A : Array Value} {Z : State} {h0 : Heap} {Q : Option Value → Heap → List Loc → Prop} (hp : plainFor y = true)
    (his : ∀ args (s : State) m, (head1 ws rm).pre.before args s = true → s.methodNamed? y = some m → ∃ meth c, s.vm.method? m = some meth ∧ meth.code = some c ∧ c.code = bytes ∧ c.maxLocals = maxL ∧ meth.sig.returnType = ret ∧ meth.locks = false)
    (body : ∀ (p : Program) (e : Env) (s : State) (m : MethodId) (below : List Frame) (meth : Method) (c : Code) (s₁ : State), p.tables.exec = Jvm.exec → c.code = bytes → c.maxLocals = maxL → s.vm.findClass y.cls = some m.cls → meth.name = y.name → meth.sig.returnType = ret → Z.Warmed39 s.vm → Stand p l e rm s m A below meth c s₁ [] 0 0 → s₁.heap = h0 →
      ∃ (v : Option Value) (T : State) (locs : List Loc) (cells slots : Nat) (f : JFrame), Stand p l e rm s m A below meth c T locs cells slots ∧ cells ≤ rm.cells ∧ slots ≤ rm.slots ∧ (ret = none → v = none) ∧ (∀ t, Go p e below T f t → Go p e below s₁ (entryFrame m A maxL) t) ∧
        (∀ fs, (∀ (f : JFrame) (acts : List Action), f.method = m → f.locked = none → f.entered = [] → (doReturn e (T.setTop f) acts v).1 = T.setFrames fs) → Go p e below T f (T.setFrames fs)) ∧ Q v T.heap locs) :
    MetFree l y (head1 ws rm) (fun a U => a = A ∧ Z.Warmed39 U.vm ∧ U.heap = h0) (fun _ _ _ _ _ => True) (fun _ U o U' => ∃ v L, o = .returned v ∧ Q v U'.heap L ∧ FrameEnd U o U' L rm.cells rm.slots) := by
  refine MetFree.of_bodySF hp his ?_
  intro p e s m args below meth c s₁ Bd hml0 hP hK
  obtain ⟨rfl, hZ, hh⟩ := hP
  obtain ⟨v, T, locs, cells, slots, f, X, hc, hs, hv, q, hf, hQ⟩ := body p e s m below meth c s₁ Bd.exec Bd.bytes hml0 (findClass_of_methodNamed Bd.named) (name_of_methodNamed Bd.named Bd.method).1 Bd.returns hZ (Stand.of_body Bd) (by rw [← hh, Bd.state]; rfl)
  obtain ⟨fs, hr, hrun, hended, hW, hsame⟩ := X.leave (v := v) (fun h => hv (Bd.returns ▸ h))
  exact ⟨_, _, q _ (hf fs hr), hrun, hended, v, locs, rfl, hQ, ⟨_, rfl⟩, hW, hsame.mono hc hs⟩
theorem own_eqI {args : Array Value} {Z : State} {t : Term} {k : Int32} (h : (Jvm.Cond.eq t (Term.int k)).value args Z none Z [] = some true) : t.eval args Z none [] Z = some (.int k) := by
  obtain ⟨x, y, e1, e2, k1, k2⟩ := cmp_v (Or.inl h)
  rw [Term.int_eval] at e2; cases Option.some.inj e2
  cases x <;> first | (obtain ⟨z, hz⟩ := k2; cases hz; simp [Cond.value, e1, Term.int_eval] at h; rw [e1, h]) | (obtain ⟨z, hz⟩ := k2; cases hz)
theorem own_fldI {args : Array Value} {Z : State} {t : Term} {k : Int32} {C n d : String} {w : Addr} (ht : t.eval args Z none [] Z = some (.ref w)) (h : (Jvm.Cond.eq (Term.field t C n d) (Term.int k)).value args Z none Z [] = some true) : Fld Z Z.heap w C n d (.int k) :=
  Fld.start ((fld_at ht).symm.trans (own_eqI h))
def Cx (Z : State) (w_BOOL : Addr) (w_REAL : Addr) (w_INT : Addr) : Prop := Sta Z Z.heap "com/example/sloth/sloth/model/Type" "BOOL" "Lcom/example/sloth/sloth/model/Type;" (.ref w_BOOL) ∧ Exa Z Z.heap w_BOOL "com/example/sloth/sloth/model/Type" ∧ Sta Z Z.heap "com/example/sloth/sloth/model/Type" "REAL" "Lcom/example/sloth/sloth/model/Type;" (.ref w_REAL) ∧ Exa Z Z.heap w_REAL "com/example/sloth/sloth/model/Type" ∧ Sta Z Z.heap "com/example/sloth/sloth/model/Type" "INT" "Lcom/example/sloth/sloth/model/Type;" (.ref w_INT) ∧ Exa Z Z.heap w_INT "com/example/sloth/sloth/model/Type" ∧ Fld Z Z.heap w_REAL "java/lang/Enum" "ordinal" "I" (.int (2 : Int32)) ∧ Fld Z Z.heap w_INT "java/lang/Enum" "ordinal" "I" (.int (1 : Int32)) ∧ Fld Z Z.heap w_BOOL "java/lang/Enum" "ordinal" "I" (.int (0 : Int32)) ∧ ¬ (w_BOOL = w_INT) ∧ ¬ (w_BOOL = w_REAL) ∧ ¬ (w_INT = w_REAL)
theorem own_mod3 (a : Int32) : ((a &&& (2147483647 : Int32)) % (3 : Int32)) = (0 : Int32) ∨ ((a &&& (2147483647 : Int32)) % (3 : Int32)) = (1 : Int32) ∨ ((a &&& (2147483647 : Int32)) % (3 : Int32)) = (2 : Int32) := by
  have h1 := c_mask a 2147483647 31 (by decide) (by decide)
  have h2 := (c_irem (a &&& 2147483647) 3 3 (by decide)).1 (by omega)
  have h3 : ((a &&& 2147483647) % 3).toInt = 0 ∨ ((a &&& 2147483647) % 3).toInt = 1 ∨ ((a &&& 2147483647) % 3).toInt = 2 := by omega
  rcases h3 with h | h | h
  · exact Or.inl (Int32.toInt_inj.mp (by rw [h]; decide))
  · exact Or.inr (Or.inl (Int32.toInt_inj.mp (by rw [h]; decide)))
  · exact Or.inr (Or.inr (Int32.toInt_inj.mp (by rw [h]; decide)))
theorem ef_1_I (m : MethodId) (x0 : Int32) : entryFrame m #[(.int x0)] 1 = mkF m 0 #[.val (.int x0)] [] := by first | (simp [entryFrame, mkF, argsToLocals, Value.category]; done) | rfl
theorem pn_1 : plainName "com/example/sloth/sloth/model/TypeAcceptsPinLaw" = true := by first | (simp [plainName, overriddenIn]; done) | decide +kernel
theorem d1_0 : decode method_2_code 0 = .ok (.iload_n 0, 1) := by decide +kernel
theorem d1_1 : decode method_2_code 1 = .ok (.ifCond .ne 7, 3) := by decide +kernel
theorem d1_4 : decode method_2_code 4 = .ok (.getstatic 7, 3) := by decide +kernel
theorem d1_7 : decode method_2_code 7 = .ok (.areturn, 1) := by decide +kernel
def Q_rm1_0 (Z : State) (w_BOOL : Addr) (w_REAL : Addr) (w_INT : Addr) (h0 : Heap) (n0 : Nat) (v : Option Value) (h : Heap) (L : List Loc) : Prop := v = some (.ref w_BOOL) ∧ Fr n0 L ∧ h = h0
theorem rm1_0 (l : Launch) (Z : State) (a0 : Array Value) (hw : ∀ d ∈ tables_1, d.before a0 Z = true) (ws : List Jvm.Cond) {w_BOOL : Addr} {w_REAL : Addr} {w_INT : Addr} (cx : Cx Z w_BOOL w_REAL w_INT) (h0 : Heap) (n0 : Nat) (O0 : Old Z n0 h0) :
    OwnMet l (⟨"com/example/sloth/sloth/model/TypeAcceptsPinLaw", "pick", "(I)Lcom/example/sloth/sloth/model/Type;"⟩ : MethodName) (Jvm.Cond.code (⟨"com/example/sloth/sloth/model/TypeAcceptsPinLaw", "pick", "(I)Lcom/example/sloth/sloth/model/Type;"⟩ : MethodName) method_2_code 1 (some (.object "com/example/sloth/sloth/model/Type")) :: ws) (own_R 0 0 0 0) #[(.int (0 : Int32))] Z h0 (Q_rm1_0 Z  w_BOOL w_REAL w_INT h0 n0) := by
  refine own_body (plainFor_of_name pn_1) hisR fun p e s m below meth c s₁ hx hby hml hown hnm hret hZ X0 e0 => ?_
  have N0 := Fr.nil n0
  have pre0 : ∀ t, Go p e below s₁ (mkF m 0 #[.val (.int (0 : Int32))] []) t → Go p e below s₁ (entryFrame m #[(.int (0 : Int32))] 1) t := fun t k => castTop (ef_1_I m (0 : Int32)) k
  have q1 := fun t (kt : Go p e below s₁ (mkF m 4 #[.val (.int (0 : Int32))] []) t) => pre0 t (by
    show Go p e below s₁ (mkF m 0 #[.val (.int (0 : Int32))] []) _
    refine XS.iloadN X0.here hx rfl (hb hby d1_0) rfl ?_
    show Go p e below s₁ (mkF m 1 #[.val (.int (0 : Int32))] [(.int (0 : Int32))]) _
    refine XS.ifNo X0.here hx rfl (hb hby d1_1) rfl ((if0 _ _).trans (teq (rfl : (0 : Int32) = (0 : Int32))).2) ?_
    exact kt)
  obtain ⟨T2, X2, e2, st2⟩ := getS2 X0 hx hZ hown (host := "") (Or.inl (own_w hw 6 rfl)) Via.refl e0 (cx.1.ext O0.2) (g := (mkF m 4 #[.val (.int (0 : Int32))] [])) rfl (hb hby d1_4)
  have q3 := fun t (kt : Go p e below T2 (mkF m 7 #[.val (.int (0 : Int32))] [(.ref w_BOOL)]) t) => q1 t (st2 t kt)
  exact ⟨some (.ref w_BOOL), T2, _, _, _, _, X2, by decide, by decide, nofun, q3, fun fs hr => retOut X2 hx hret rfl (Or.inr (Or.inr (Or.inr (Or.inr ⟨rfl, rfl, rfl⟩)))) (hb hby d1_7) hr, by rw [e2]; exact ⟨rfl, N0, rfl⟩⟩
theorem d1_8 : decode method_2_code 8 = .ok (.iload_n 0, 1) := by decide +kernel
theorem d1_9 : decode method_2_code 9 = .ok (.iconst 1, 1) := by decide +kernel
theorem d1_10 : decode method_2_code 10 = .ok (.if_icmp .ne 7, 3) := by decide +kernel
theorem d1_13 : decode method_2_code 13 = .ok (.getstatic 13, 3) := by decide +kernel
theorem d1_16 : decode method_2_code 16 = .ok (.areturn, 1) := by decide +kernel
def Q_rm1_1 (Z : State) (w_BOOL : Addr) (w_REAL : Addr) (w_INT : Addr) (h0 : Heap) (n0 : Nat) (v : Option Value) (h : Heap) (L : List Loc) : Prop := v = some (.ref w_INT) ∧ Fr n0 L ∧ h = h0
theorem rm1_1 (l : Launch) (Z : State) (a0 : Array Value) (hw : ∀ d ∈ tables_1, d.before a0 Z = true) (ws : List Jvm.Cond) {w_BOOL : Addr} {w_REAL : Addr} {w_INT : Addr} (cx : Cx Z w_BOOL w_REAL w_INT) (h0 : Heap) (n0 : Nat) (O0 : Old Z n0 h0) :
    OwnMet l (⟨"com/example/sloth/sloth/model/TypeAcceptsPinLaw", "pick", "(I)Lcom/example/sloth/sloth/model/Type;"⟩ : MethodName) (Jvm.Cond.code (⟨"com/example/sloth/sloth/model/TypeAcceptsPinLaw", "pick", "(I)Lcom/example/sloth/sloth/model/Type;"⟩ : MethodName) method_2_code 1 (some (.object "com/example/sloth/sloth/model/Type")) :: ws) (own_R 0 0 0 0) #[(.int (1 : Int32))] Z h0 (Q_rm1_1 Z  w_BOOL w_REAL w_INT h0 n0) := by
  refine own_body (plainFor_of_name pn_1) hisR fun p e s m below meth c s₁ hx hby hml hown hnm hret hZ X0 e0 => ?_
  have N0 := Fr.nil n0
  have pre0 : ∀ t, Go p e below s₁ (mkF m 0 #[.val (.int (1 : Int32))] []) t → Go p e below s₁ (entryFrame m #[(.int (1 : Int32))] 1) t := fun t k => castTop (ef_1_I m (1 : Int32)) k
  have q1 := fun t (kt : Go p e below s₁ (mkF m 13 #[.val (.int (1 : Int32))] []) t) => pre0 t (by
    show Go p e below s₁ (mkF m 0 #[.val (.int (1 : Int32))] []) _
    refine XS.iloadN X0.here hx rfl (hb hby d1_0) rfl ?_
    show Go p e below s₁ (mkF m 1 #[.val (.int (1 : Int32))] [(.int (1 : Int32))]) _
    refine XS.ifYes X0.here hx rfl (pc0 := 1) (pc' := 8) rfl (hb hby d1_1) rfl ((if0 _ _).trans (feq (by decide : ¬ ((1 : Int32) = (0 : Int32)))).2) (by decide) (by decide) ?_
    show Go p e below s₁ (mkF m 8 #[.val (.int (1 : Int32))] []) _
    refine XS.iloadN X0.here hx rfl (hb hby d1_8) rfl ?_
    show Go p e below s₁ (mkF m 9 #[.val (.int (1 : Int32))] [(.int (1 : Int32))]) _
    refine XS.iconst X0.here hx rfl (hb hby d1_9) ?_
    show Go p e below s₁ (mkF m 10 #[.val (.int (1 : Int32))] [(.int (1 : Int32)), (.int (1 : Int32))]) _
    refine XS.icmpNo X0.here hx rfl (hb hby d1_10) rfl (teq (rfl : (1 : Int32) = (1 : Int32))).2 ?_
    exact kt)
  obtain ⟨T2, X2, e2, st2⟩ := getS2 X0 hx hZ hown (host := "") (Or.inl (own_w hw 16 rfl)) Via.refl e0 (cx.2.2.2.2.1.ext O0.2) (g := (mkF m 13 #[.val (.int (1 : Int32))] [])) rfl (hb hby d1_13)
  have q3 := fun t (kt : Go p e below T2 (mkF m 16 #[.val (.int (1 : Int32))] [(.ref w_INT)]) t) => q1 t (st2 t kt)
  exact ⟨some (.ref w_INT), T2, _, _, _, _, X2, by decide, by decide, nofun, q3, fun fs hr => retOut X2 hx hret rfl (Or.inr (Or.inr (Or.inr (Or.inr ⟨rfl, rfl, rfl⟩)))) (hb hby d1_16) hr, by rw [e2]; exact ⟨rfl, N0, rfl⟩⟩
theorem d1_17 : decode method_2_code 17 = .ok (.getstatic 16, 3) := by decide +kernel
theorem d1_20 : decode method_2_code 20 = .ok (.areturn, 1) := by decide +kernel
def Q_rm1_2 (Z : State) (w_BOOL : Addr) (w_REAL : Addr) (w_INT : Addr) (h0 : Heap) (n0 : Nat) (v : Option Value) (h : Heap) (L : List Loc) : Prop := v = some (.ref w_REAL) ∧ Fr n0 L ∧ h = h0
theorem rm1_2 (l : Launch) (Z : State) (a0 : Array Value) (hw : ∀ d ∈ tables_1, d.before a0 Z = true) (ws : List Jvm.Cond) {w_BOOL : Addr} {w_REAL : Addr} {w_INT : Addr} (cx : Cx Z w_BOOL w_REAL w_INT) (h0 : Heap) (n0 : Nat) (O0 : Old Z n0 h0) :
    OwnMet l (⟨"com/example/sloth/sloth/model/TypeAcceptsPinLaw", "pick", "(I)Lcom/example/sloth/sloth/model/Type;"⟩ : MethodName) (Jvm.Cond.code (⟨"com/example/sloth/sloth/model/TypeAcceptsPinLaw", "pick", "(I)Lcom/example/sloth/sloth/model/Type;"⟩ : MethodName) method_2_code 1 (some (.object "com/example/sloth/sloth/model/Type")) :: ws) (own_R 0 0 0 0) #[(.int (2 : Int32))] Z h0 (Q_rm1_2 Z  w_BOOL w_REAL w_INT h0 n0) := by
  refine own_body (plainFor_of_name pn_1) hisR fun p e s m below meth c s₁ hx hby hml hown hnm hret hZ X0 e0 => ?_
  have N0 := Fr.nil n0
  have pre0 : ∀ t, Go p e below s₁ (mkF m 0 #[.val (.int (2 : Int32))] []) t → Go p e below s₁ (entryFrame m #[(.int (2 : Int32))] 1) t := fun t k => castTop (ef_1_I m (2 : Int32)) k
  have q1 := fun t (kt : Go p e below s₁ (mkF m 17 #[.val (.int (2 : Int32))] []) t) => pre0 t (by
    show Go p e below s₁ (mkF m 0 #[.val (.int (2 : Int32))] []) _
    refine XS.iloadN X0.here hx rfl (hb hby d1_0) rfl ?_
    show Go p e below s₁ (mkF m 1 #[.val (.int (2 : Int32))] [(.int (2 : Int32))]) _
    refine XS.ifYes X0.here hx rfl (pc0 := 1) (pc' := 8) rfl (hb hby d1_1) rfl ((if0 _ _).trans (feq (by decide : ¬ ((2 : Int32) = (0 : Int32)))).2) (by decide) (by decide) ?_
    show Go p e below s₁ (mkF m 8 #[.val (.int (2 : Int32))] []) _
    refine XS.iloadN X0.here hx rfl (hb hby d1_8) rfl ?_
    show Go p e below s₁ (mkF m 9 #[.val (.int (2 : Int32))] [(.int (2 : Int32))]) _
    refine XS.iconst X0.here hx rfl (hb hby d1_9) ?_
    show Go p e below s₁ (mkF m 10 #[.val (.int (2 : Int32))] [(.int (1 : Int32)), (.int (2 : Int32))]) _
    refine XS.icmpYes X0.here hx rfl (pc0 := 10) (pc' := 17) rfl (hb hby d1_10) rfl (feq (by decide : ¬ ((2 : Int32) = (1 : Int32)))).2 (by decide) (by decide) ?_
    exact kt)
  obtain ⟨T2, X2, e2, st2⟩ := getS2 X0 hx hZ hown (host := "") (Or.inl (own_w hw 14 rfl)) Via.refl e0 (cx.2.2.1.ext O0.2) (g := (mkF m 17 #[.val (.int (2 : Int32))] [])) rfl (hb hby d1_17)
  have q3 := fun t (kt : Go p e below T2 (mkF m 20 #[.val (.int (2 : Int32))] [(.ref w_REAL)]) t) => q1 t (st2 t kt)
  exact ⟨some (.ref w_REAL), T2, _, _, _, _, X2, by decide, by decide, nofun, q3, fun fs hr => retOut X2 hx hret rfl (Or.inr (Or.inr (Or.inr (Or.inr ⟨rfl, rfl, rfl⟩)))) (hb hby d1_20) hr, by rw [e2]; exact ⟨rfl, N0, rfl⟩⟩
theorem ef_2_RR (m : MethodId) (x0 : Addr) (x1 : Addr) : entryFrame m #[(.ref x0), (.ref x1)] 2 = mkF m 0 #[.val (.ref x0), .val (.ref x1)] [] := by first | (simp [entryFrame, mkF, argsToLocals, Value.category]; done) | rfl
theorem pn_2 : plainName "com/example/sloth/sloth/model/Type" = true := by first | (simp [plainName, overriddenIn]; done) | decide +kernel
theorem d2_0 : decode prog_54_method_6_code 0 = .ok (.aload_n 0, 1) := by decide +kernel
theorem d2_1 : decode prog_54_method_6_code 1 = .ok (.aload_n 1, 1) := by decide +kernel
theorem d2_2 : decode prog_54_method_6_code 2 = .ok (.if_acmp .eq 17, 3) := by decide +kernel
theorem d2_19 : decode prog_54_method_6_code 19 = .ok (.iconst 1, 1) := by decide +kernel
theorem d2_20 : decode prog_54_method_6_code 20 = .ok (.goto 4, 3) := by decide +kernel
theorem d2_24 : decode prog_54_method_6_code 24 = .ok (.ireturn, 1) := by decide +kernel
def Q_rm2_0_0 (Z : State) (w_BOOL : Addr) (w_REAL : Addr) (w_INT : Addr) (h0 : Heap) (n0 : Nat) (v : Option Value) (h : Heap) (L : List Loc) : Prop := v = some (.int (1 : Int32)) ∧ Fr n0 L ∧ h = h0
theorem rm2_0_0 (l : Launch) (Z : State) (a0 : Array Value) (hw : ∀ d ∈ tables_1, d.before a0 Z = true) (ws : List Jvm.Cond) {w_BOOL : Addr} {w_REAL : Addr} {w_INT : Addr} (cx : Cx Z w_BOOL w_REAL w_INT) (h0 : Heap) (n0 : Nat) (O0 : Old Z n0 h0) :
    OwnMet l (⟨"com/example/sloth/sloth/model/Type", "accepts", "(Lcom/example/sloth/sloth/model/Type;)Z"⟩ : MethodName) (Jvm.Cond.code (⟨"com/example/sloth/sloth/model/Type", "accepts", "(Lcom/example/sloth/sloth/model/Type;)Z"⟩ : MethodName) prog_54_method_6_code 2 (some .boolean) :: ws) (own_R 0 0 0 0) #[(.ref w_BOOL), (.ref w_BOOL)] Z h0 (Q_rm2_0_0 Z  w_BOOL w_REAL w_INT h0 n0) := by
  refine own_body (plainFor_of_name pn_2) hisR fun p e s m below meth c s₁ hx hby hml hown hnm hret hZ X0 e0 => ?_
  have N0 := Fr.nil n0
  have pre0 : ∀ t, Go p e below s₁ (mkF m 0 #[.val (.ref w_BOOL), .val (.ref w_BOOL)] []) t → Go p e below s₁ (entryFrame m #[(.ref w_BOOL), (.ref w_BOOL)] 2) t := fun t k => castTop (ef_2_RR m w_BOOL w_BOOL) k
  have q1 := fun t (kt : Go p e below s₁ (mkF m 24 #[.val (.ref w_BOOL), .val (.ref w_BOOL)] [(.int (1 : Int32))]) t) => pre0 t (by
    show Go p e below s₁ (mkF m 0 #[.val (.ref w_BOOL), .val (.ref w_BOOL)] []) _
    refine XS.aloadN X0.here hx rfl (hb hby d2_0) rfl rfl ?_
    show Go p e below s₁ (mkF m 1 #[.val (.ref w_BOOL), .val (.ref w_BOOL)] [(.ref w_BOOL)]) _
    refine XS.aloadN X0.here hx rfl (hb hby d2_1) rfl rfl ?_
    show Go p e below s₁ (mkF m 2 #[.val (.ref w_BOOL), .val (.ref w_BOOL)] [(.ref w_BOOL), (.ref w_BOOL)]) _
    refine Jvm.RoadKit.acmp (g := (mkF m 2 #[.val (.ref w_BOOL), .val (.ref w_BOOL)] [(.ref w_BOOL), (.ref w_BOOL)])) X0 hx rfl rfl rfl (pc0 := 2) (pc' := 19) (same := true) rfl (hb hby d2_2) rfl (decide_eq_true rfl) (by decide) (by decide) ?_
    show Go p e below s₁ (mkF m 19 #[.val (.ref w_BOOL), .val (.ref w_BOOL)] []) _
    refine XS.iconst X0.here hx rfl (hb hby d2_19) ?_
    show Go p e below s₁ (mkF m 20 #[.val (.ref w_BOOL), .val (.ref w_BOOL)] [(.int (1 : Int32))]) _
    refine XS.goto X0.here hx rfl (pc0 := 20) (pc' := 24) rfl (hb hby d2_20) (by decide) (by decide) ?_
    exact kt)
  exact ⟨some (.int (1 : Int32)), s₁, _, _, _, _, X0, by decide, by decide, nofun, q1, fun fs hr => retN X0 hx (t := .boolean) hret (by simp) (hb hby d2_24) hr, by rw [e0]; exact ⟨rfl, N0, rfl⟩⟩
theorem d2_5 : decode prog_54_method_6_code 5 = .ok (.aload_n 0, 1) := by decide +kernel
theorem d2_6 : decode prog_54_method_6_code 6 = .ok (.getstatic 10, 3) := by decide +kernel
theorem d2_9 : decode prog_54_method_6_code 9 = .ok (.if_acmp .ne 14, 3) := by decide +kernel
theorem d2_23 : decode prog_54_method_6_code 23 = .ok (.iconst 0, 1) := by decide +kernel
def Q_rm2_0_1 (Z : State) (w_BOOL : Addr) (w_REAL : Addr) (w_INT : Addr) (h0 : Heap) (n0 : Nat) (v : Option Value) (h : Heap) (L : List Loc) : Prop := v = some (.int (0 : Int32)) ∧ Fr n0 L ∧ h = h0
theorem rm2_0_1 (l : Launch) (Z : State) (a0 : Array Value) (hw : ∀ d ∈ tables_1, d.before a0 Z = true) (ws : List Jvm.Cond) {w_BOOL : Addr} {w_REAL : Addr} {w_INT : Addr} (cx : Cx Z w_BOOL w_REAL w_INT) (h0 : Heap) (n0 : Nat) (O0 : Old Z n0 h0) :
    OwnMet l (⟨"com/example/sloth/sloth/model/Type", "accepts", "(Lcom/example/sloth/sloth/model/Type;)Z"⟩ : MethodName) (Jvm.Cond.code (⟨"com/example/sloth/sloth/model/Type", "accepts", "(Lcom/example/sloth/sloth/model/Type;)Z"⟩ : MethodName) prog_54_method_6_code 2 (some .boolean) :: ws) (own_R 0 0 0 0) #[(.ref w_BOOL), (.ref w_INT)] Z h0 (Q_rm2_0_1 Z  w_BOOL w_REAL w_INT h0 n0) := by
  refine own_body (plainFor_of_name pn_2) hisR fun p e s m below meth c s₁ hx hby hml hown hnm hret hZ X0 e0 => ?_
  have N0 := Fr.nil n0
  have pre0 : ∀ t, Go p e below s₁ (mkF m 0 #[.val (.ref w_BOOL), .val (.ref w_INT)] []) t → Go p e below s₁ (entryFrame m #[(.ref w_BOOL), (.ref w_INT)] 2) t := fun t k => castTop (ef_2_RR m w_BOOL w_INT) k
  have q1 := fun t (kt : Go p e below s₁ (mkF m 6 #[.val (.ref w_BOOL), .val (.ref w_INT)] [(.ref w_BOOL)]) t) => pre0 t (by
    show Go p e below s₁ (mkF m 0 #[.val (.ref w_BOOL), .val (.ref w_INT)] []) _
    refine XS.aloadN X0.here hx rfl (hb hby d2_0) rfl rfl ?_
    show Go p e below s₁ (mkF m 1 #[.val (.ref w_BOOL), .val (.ref w_INT)] [(.ref w_BOOL)]) _
    refine XS.aloadN X0.here hx rfl (hb hby d2_1) rfl rfl ?_
    show Go p e below s₁ (mkF m 2 #[.val (.ref w_BOOL), .val (.ref w_INT)] [(.ref w_INT), (.ref w_BOOL)]) _
    refine Jvm.RoadKit.acmp (g := (mkF m 2 #[.val (.ref w_BOOL), .val (.ref w_INT)] [(.ref w_INT), (.ref w_BOOL)])) X0 hx rfl rfl rfl (pc0 := 2) (pc' := 5) (same := false) rfl (hb hby d2_2) rfl (decide_eq_false (fun q => cx.2.2.2.2.2.2.2.2.2.1 (Value.ref.inj q))) (by decide) (by decide) ?_
    show Go p e below s₁ (mkF m 5 #[.val (.ref w_BOOL), .val (.ref w_INT)] []) _
    refine XS.aloadN X0.here hx rfl (hb hby d2_5) rfl rfl ?_
    exact kt)
  obtain ⟨T2, X2, e2, st2⟩ := getS2 X0 hx hZ hown (host := "") (Or.inl (own_w hw 18 rfl)) Via.refl e0 (cx.2.2.1.ext O0.2) (g := (mkF m 6 #[.val (.ref w_BOOL), .val (.ref w_INT)] [(.ref w_BOOL)])) rfl (hb hby d2_6)
  have q3 := fun t (kt : Go p e below T2 (mkF m 9 #[.val (.ref w_BOOL), .val (.ref w_INT)] [(.ref w_REAL), (.ref w_BOOL)]) t) => q1 t (st2 t kt)
  have q4 := fun t (kt : Go p e below T2 (mkF m 24 #[.val (.ref w_BOOL), .val (.ref w_INT)] [(.int (0 : Int32))]) t) => q3 t (by
    show Go p e below T2 (mkF m 9 #[.val (.ref w_BOOL), .val (.ref w_INT)] [(.ref w_REAL), (.ref w_BOOL)]) _
    refine Jvm.RoadKit.acmp (g := (mkF m 9 #[.val (.ref w_BOOL), .val (.ref w_INT)] [(.ref w_REAL), (.ref w_BOOL)])) X2 hx rfl rfl rfl (pc0 := 9) (pc' := 23) (same := false) rfl (hb hby d2_9) rfl (decide_eq_false (fun q => cx.2.2.2.2.2.2.2.2.2.2.1 (Value.ref.inj q))) (by decide) (by decide) ?_
    show Go p e below T2 (mkF m 23 #[.val (.ref w_BOOL), .val (.ref w_INT)] []) _
    refine XS.iconst X2.here hx rfl (hb hby d2_23) ?_
    exact kt)
  exact ⟨some (.int (0 : Int32)), T2, _, _, _, _, X2, by decide, by decide, nofun, q4, fun fs hr => retN X2 hx (t := .boolean) hret (by simp) (hb hby d2_24) hr, by rw [e2]; exact ⟨rfl, N0, rfl⟩⟩
def Q_rm2_0_2 (Z : State) (w_BOOL : Addr) (w_REAL : Addr) (w_INT : Addr) (h0 : Heap) (n0 : Nat) (v : Option Value) (h : Heap) (L : List Loc) : Prop := v = some (.int (0 : Int32)) ∧ Fr n0 L ∧ h = h0
theorem rm2_0_2 (l : Launch) (Z : State) (a0 : Array Value) (hw : ∀ d ∈ tables_1, d.before a0 Z = true) (ws : List Jvm.Cond) {w_BOOL : Addr} {w_REAL : Addr} {w_INT : Addr} (cx : Cx Z w_BOOL w_REAL w_INT) (h0 : Heap) (n0 : Nat) (O0 : Old Z n0 h0) :
    OwnMet l (⟨"com/example/sloth/sloth/model/Type", "accepts", "(Lcom/example/sloth/sloth/model/Type;)Z"⟩ : MethodName) (Jvm.Cond.code (⟨"com/example/sloth/sloth/model/Type", "accepts", "(Lcom/example/sloth/sloth/model/Type;)Z"⟩ : MethodName) prog_54_method_6_code 2 (some .boolean) :: ws) (own_R 0 0 0 0) #[(.ref w_BOOL), (.ref w_REAL)] Z h0 (Q_rm2_0_2 Z  w_BOOL w_REAL w_INT h0 n0) := by
  refine own_body (plainFor_of_name pn_2) hisR fun p e s m below meth c s₁ hx hby hml hown hnm hret hZ X0 e0 => ?_
  have N0 := Fr.nil n0
  have pre0 : ∀ t, Go p e below s₁ (mkF m 0 #[.val (.ref w_BOOL), .val (.ref w_REAL)] []) t → Go p e below s₁ (entryFrame m #[(.ref w_BOOL), (.ref w_REAL)] 2) t := fun t k => castTop (ef_2_RR m w_BOOL w_REAL) k
  have q1 := fun t (kt : Go p e below s₁ (mkF m 6 #[.val (.ref w_BOOL), .val (.ref w_REAL)] [(.ref w_BOOL)]) t) => pre0 t (by
    show Go p e below s₁ (mkF m 0 #[.val (.ref w_BOOL), .val (.ref w_REAL)] []) _
    refine XS.aloadN X0.here hx rfl (hb hby d2_0) rfl rfl ?_
    show Go p e below s₁ (mkF m 1 #[.val (.ref w_BOOL), .val (.ref w_REAL)] [(.ref w_BOOL)]) _
    refine XS.aloadN X0.here hx rfl (hb hby d2_1) rfl rfl ?_
    show Go p e below s₁ (mkF m 2 #[.val (.ref w_BOOL), .val (.ref w_REAL)] [(.ref w_REAL), (.ref w_BOOL)]) _
    refine Jvm.RoadKit.acmp (g := (mkF m 2 #[.val (.ref w_BOOL), .val (.ref w_REAL)] [(.ref w_REAL), (.ref w_BOOL)])) X0 hx rfl rfl rfl (pc0 := 2) (pc' := 5) (same := false) rfl (hb hby d2_2) rfl (decide_eq_false (fun q => cx.2.2.2.2.2.2.2.2.2.2.1 (Value.ref.inj q))) (by decide) (by decide) ?_
    show Go p e below s₁ (mkF m 5 #[.val (.ref w_BOOL), .val (.ref w_REAL)] []) _
    refine XS.aloadN X0.here hx rfl (hb hby d2_5) rfl rfl ?_
    exact kt)
  obtain ⟨T2, X2, e2, st2⟩ := getS2 X0 hx hZ hown (host := "") (Or.inl (own_w hw 18 rfl)) Via.refl e0 (cx.2.2.1.ext O0.2) (g := (mkF m 6 #[.val (.ref w_BOOL), .val (.ref w_REAL)] [(.ref w_BOOL)])) rfl (hb hby d2_6)
  have q3 := fun t (kt : Go p e below T2 (mkF m 9 #[.val (.ref w_BOOL), .val (.ref w_REAL)] [(.ref w_REAL), (.ref w_BOOL)]) t) => q1 t (st2 t kt)
  have q4 := fun t (kt : Go p e below T2 (mkF m 24 #[.val (.ref w_BOOL), .val (.ref w_REAL)] [(.int (0 : Int32))]) t) => q3 t (by
    show Go p e below T2 (mkF m 9 #[.val (.ref w_BOOL), .val (.ref w_REAL)] [(.ref w_REAL), (.ref w_BOOL)]) _
    refine Jvm.RoadKit.acmp (g := (mkF m 9 #[.val (.ref w_BOOL), .val (.ref w_REAL)] [(.ref w_REAL), (.ref w_BOOL)])) X2 hx rfl rfl rfl (pc0 := 9) (pc' := 23) (same := false) rfl (hb hby d2_9) rfl (decide_eq_false (fun q => cx.2.2.2.2.2.2.2.2.2.2.1 (Value.ref.inj q))) (by decide) (by decide) ?_
    show Go p e below T2 (mkF m 23 #[.val (.ref w_BOOL), .val (.ref w_REAL)] []) _
    refine XS.iconst X2.here hx rfl (hb hby d2_23) ?_
    exact kt)
  exact ⟨some (.int (0 : Int32)), T2, _, _, _, _, X2, by decide, by decide, nofun, q4, fun fs hr => retN X2 hx (t := .boolean) hret (by simp) (hb hby d2_24) hr, by rw [e2]; exact ⟨rfl, N0, rfl⟩⟩
def Q_rm2_1_0 (Z : State) (w_BOOL : Addr) (w_REAL : Addr) (w_INT : Addr) (h0 : Heap) (n0 : Nat) (v : Option Value) (h : Heap) (L : List Loc) : Prop := v = some (.int (0 : Int32)) ∧ Fr n0 L ∧ h = h0
theorem rm2_1_0 (l : Launch) (Z : State) (a0 : Array Value) (hw : ∀ d ∈ tables_1, d.before a0 Z = true) (ws : List Jvm.Cond) {w_BOOL : Addr} {w_REAL : Addr} {w_INT : Addr} (cx : Cx Z w_BOOL w_REAL w_INT) (h0 : Heap) (n0 : Nat) (O0 : Old Z n0 h0) :
    OwnMet l (⟨"com/example/sloth/sloth/model/Type", "accepts", "(Lcom/example/sloth/sloth/model/Type;)Z"⟩ : MethodName) (Jvm.Cond.code (⟨"com/example/sloth/sloth/model/Type", "accepts", "(Lcom/example/sloth/sloth/model/Type;)Z"⟩ : MethodName) prog_54_method_6_code 2 (some .boolean) :: ws) (own_R 0 0 0 0) #[(.ref w_INT), (.ref w_BOOL)] Z h0 (Q_rm2_1_0 Z  w_BOOL w_REAL w_INT h0 n0) := by
  refine own_body (plainFor_of_name pn_2) hisR fun p e s m below meth c s₁ hx hby hml hown hnm hret hZ X0 e0 => ?_
  have N0 := Fr.nil n0
  have pre0 : ∀ t, Go p e below s₁ (mkF m 0 #[.val (.ref w_INT), .val (.ref w_BOOL)] []) t → Go p e below s₁ (entryFrame m #[(.ref w_INT), (.ref w_BOOL)] 2) t := fun t k => castTop (ef_2_RR m w_INT w_BOOL) k
  have q1 := fun t (kt : Go p e below s₁ (mkF m 6 #[.val (.ref w_INT), .val (.ref w_BOOL)] [(.ref w_INT)]) t) => pre0 t (by
    show Go p e below s₁ (mkF m 0 #[.val (.ref w_INT), .val (.ref w_BOOL)] []) _
    refine XS.aloadN X0.here hx rfl (hb hby d2_0) rfl rfl ?_
    show Go p e below s₁ (mkF m 1 #[.val (.ref w_INT), .val (.ref w_BOOL)] [(.ref w_INT)]) _
    refine XS.aloadN X0.here hx rfl (hb hby d2_1) rfl rfl ?_
    show Go p e below s₁ (mkF m 2 #[.val (.ref w_INT), .val (.ref w_BOOL)] [(.ref w_BOOL), (.ref w_INT)]) _
    refine Jvm.RoadKit.acmp (g := (mkF m 2 #[.val (.ref w_INT), .val (.ref w_BOOL)] [(.ref w_BOOL), (.ref w_INT)])) X0 hx rfl rfl rfl (pc0 := 2) (pc' := 5) (same := false) rfl (hb hby d2_2) rfl (decide_eq_false (fun q => (Ne.symm cx.2.2.2.2.2.2.2.2.2.1) (Value.ref.inj q))) (by decide) (by decide) ?_
    show Go p e below s₁ (mkF m 5 #[.val (.ref w_INT), .val (.ref w_BOOL)] []) _
    refine XS.aloadN X0.here hx rfl (hb hby d2_5) rfl rfl ?_
    exact kt)
  obtain ⟨T2, X2, e2, st2⟩ := getS2 X0 hx hZ hown (host := "") (Or.inl (own_w hw 18 rfl)) Via.refl e0 (cx.2.2.1.ext O0.2) (g := (mkF m 6 #[.val (.ref w_INT), .val (.ref w_BOOL)] [(.ref w_INT)])) rfl (hb hby d2_6)
  have q3 := fun t (kt : Go p e below T2 (mkF m 9 #[.val (.ref w_INT), .val (.ref w_BOOL)] [(.ref w_REAL), (.ref w_INT)]) t) => q1 t (st2 t kt)
  have q4 := fun t (kt : Go p e below T2 (mkF m 24 #[.val (.ref w_INT), .val (.ref w_BOOL)] [(.int (0 : Int32))]) t) => q3 t (by
    show Go p e below T2 (mkF m 9 #[.val (.ref w_INT), .val (.ref w_BOOL)] [(.ref w_REAL), (.ref w_INT)]) _
    refine Jvm.RoadKit.acmp (g := (mkF m 9 #[.val (.ref w_INT), .val (.ref w_BOOL)] [(.ref w_REAL), (.ref w_INT)])) X2 hx rfl rfl rfl (pc0 := 9) (pc' := 23) (same := false) rfl (hb hby d2_9) rfl (decide_eq_false (fun q => cx.2.2.2.2.2.2.2.2.2.2.2 (Value.ref.inj q))) (by decide) (by decide) ?_
    show Go p e below T2 (mkF m 23 #[.val (.ref w_INT), .val (.ref w_BOOL)] []) _
    refine XS.iconst X2.here hx rfl (hb hby d2_23) ?_
    exact kt)
  exact ⟨some (.int (0 : Int32)), T2, _, _, _, _, X2, by decide, by decide, nofun, q4, fun fs hr => retN X2 hx (t := .boolean) hret (by simp) (hb hby d2_24) hr, by rw [e2]; exact ⟨rfl, N0, rfl⟩⟩
def Q_rm2_1_1 (Z : State) (w_BOOL : Addr) (w_REAL : Addr) (w_INT : Addr) (h0 : Heap) (n0 : Nat) (v : Option Value) (h : Heap) (L : List Loc) : Prop := v = some (.int (1 : Int32)) ∧ Fr n0 L ∧ h = h0
theorem rm2_1_1 (l : Launch) (Z : State) (a0 : Array Value) (hw : ∀ d ∈ tables_1, d.before a0 Z = true) (ws : List Jvm.Cond) {w_BOOL : Addr} {w_REAL : Addr} {w_INT : Addr} (cx : Cx Z w_BOOL w_REAL w_INT) (h0 : Heap) (n0 : Nat) (O0 : Old Z n0 h0) :
    OwnMet l (⟨"com/example/sloth/sloth/model/Type", "accepts", "(Lcom/example/sloth/sloth/model/Type;)Z"⟩ : MethodName) (Jvm.Cond.code (⟨"com/example/sloth/sloth/model/Type", "accepts", "(Lcom/example/sloth/sloth/model/Type;)Z"⟩ : MethodName) prog_54_method_6_code 2 (some .boolean) :: ws) (own_R 0 0 0 0) #[(.ref w_INT), (.ref w_INT)] Z h0 (Q_rm2_1_1 Z  w_BOOL w_REAL w_INT h0 n0) := by
  refine own_body (plainFor_of_name pn_2) hisR fun p e s m below meth c s₁ hx hby hml hown hnm hret hZ X0 e0 => ?_
  have N0 := Fr.nil n0
  have pre0 : ∀ t, Go p e below s₁ (mkF m 0 #[.val (.ref w_INT), .val (.ref w_INT)] []) t → Go p e below s₁ (entryFrame m #[(.ref w_INT), (.ref w_INT)] 2) t := fun t k => castTop (ef_2_RR m w_INT w_INT) k
  have q1 := fun t (kt : Go p e below s₁ (mkF m 24 #[.val (.ref w_INT), .val (.ref w_INT)] [(.int (1 : Int32))]) t) => pre0 t (by
    show Go p e below s₁ (mkF m 0 #[.val (.ref w_INT), .val (.ref w_INT)] []) _
    refine XS.aloadN X0.here hx rfl (hb hby d2_0) rfl rfl ?_
    show Go p e below s₁ (mkF m 1 #[.val (.ref w_INT), .val (.ref w_INT)] [(.ref w_INT)]) _
    refine XS.aloadN X0.here hx rfl (hb hby d2_1) rfl rfl ?_
    show Go p e below s₁ (mkF m 2 #[.val (.ref w_INT), .val (.ref w_INT)] [(.ref w_INT), (.ref w_INT)]) _
    refine Jvm.RoadKit.acmp (g := (mkF m 2 #[.val (.ref w_INT), .val (.ref w_INT)] [(.ref w_INT), (.ref w_INT)])) X0 hx rfl rfl rfl (pc0 := 2) (pc' := 19) (same := true) rfl (hb hby d2_2) rfl (decide_eq_true rfl) (by decide) (by decide) ?_
    show Go p e below s₁ (mkF m 19 #[.val (.ref w_INT), .val (.ref w_INT)] []) _
    refine XS.iconst X0.here hx rfl (hb hby d2_19) ?_
    show Go p e below s₁ (mkF m 20 #[.val (.ref w_INT), .val (.ref w_INT)] [(.int (1 : Int32))]) _
    refine XS.goto X0.here hx rfl (pc0 := 20) (pc' := 24) rfl (hb hby d2_20) (by decide) (by decide) ?_
    exact kt)
  exact ⟨some (.int (1 : Int32)), s₁, _, _, _, _, X0, by decide, by decide, nofun, q1, fun fs hr => retN X0 hx (t := .boolean) hret (by simp) (hb hby d2_24) hr, by rw [e0]; exact ⟨rfl, N0, rfl⟩⟩
def Q_rm2_1_2 (Z : State) (w_BOOL : Addr) (w_REAL : Addr) (w_INT : Addr) (h0 : Heap) (n0 : Nat) (v : Option Value) (h : Heap) (L : List Loc) : Prop := v = some (.int (0 : Int32)) ∧ Fr n0 L ∧ h = h0
theorem rm2_1_2 (l : Launch) (Z : State) (a0 : Array Value) (hw : ∀ d ∈ tables_1, d.before a0 Z = true) (ws : List Jvm.Cond) {w_BOOL : Addr} {w_REAL : Addr} {w_INT : Addr} (cx : Cx Z w_BOOL w_REAL w_INT) (h0 : Heap) (n0 : Nat) (O0 : Old Z n0 h0) :
    OwnMet l (⟨"com/example/sloth/sloth/model/Type", "accepts", "(Lcom/example/sloth/sloth/model/Type;)Z"⟩ : MethodName) (Jvm.Cond.code (⟨"com/example/sloth/sloth/model/Type", "accepts", "(Lcom/example/sloth/sloth/model/Type;)Z"⟩ : MethodName) prog_54_method_6_code 2 (some .boolean) :: ws) (own_R 0 0 0 0) #[(.ref w_INT), (.ref w_REAL)] Z h0 (Q_rm2_1_2 Z  w_BOOL w_REAL w_INT h0 n0) := by
  refine own_body (plainFor_of_name pn_2) hisR fun p e s m below meth c s₁ hx hby hml hown hnm hret hZ X0 e0 => ?_
  have N0 := Fr.nil n0
  have pre0 : ∀ t, Go p e below s₁ (mkF m 0 #[.val (.ref w_INT), .val (.ref w_REAL)] []) t → Go p e below s₁ (entryFrame m #[(.ref w_INT), (.ref w_REAL)] 2) t := fun t k => castTop (ef_2_RR m w_INT w_REAL) k
  have q1 := fun t (kt : Go p e below s₁ (mkF m 6 #[.val (.ref w_INT), .val (.ref w_REAL)] [(.ref w_INT)]) t) => pre0 t (by
    show Go p e below s₁ (mkF m 0 #[.val (.ref w_INT), .val (.ref w_REAL)] []) _
    refine XS.aloadN X0.here hx rfl (hb hby d2_0) rfl rfl ?_
    show Go p e below s₁ (mkF m 1 #[.val (.ref w_INT), .val (.ref w_REAL)] [(.ref w_INT)]) _
    refine XS.aloadN X0.here hx rfl (hb hby d2_1) rfl rfl ?_
    show Go p e below s₁ (mkF m 2 #[.val (.ref w_INT), .val (.ref w_REAL)] [(.ref w_REAL), (.ref w_INT)]) _
    refine Jvm.RoadKit.acmp (g := (mkF m 2 #[.val (.ref w_INT), .val (.ref w_REAL)] [(.ref w_REAL), (.ref w_INT)])) X0 hx rfl rfl rfl (pc0 := 2) (pc' := 5) (same := false) rfl (hb hby d2_2) rfl (decide_eq_false (fun q => cx.2.2.2.2.2.2.2.2.2.2.2 (Value.ref.inj q))) (by decide) (by decide) ?_
    show Go p e below s₁ (mkF m 5 #[.val (.ref w_INT), .val (.ref w_REAL)] []) _
    refine XS.aloadN X0.here hx rfl (hb hby d2_5) rfl rfl ?_
    exact kt)
  obtain ⟨T2, X2, e2, st2⟩ := getS2 X0 hx hZ hown (host := "") (Or.inl (own_w hw 18 rfl)) Via.refl e0 (cx.2.2.1.ext O0.2) (g := (mkF m 6 #[.val (.ref w_INT), .val (.ref w_REAL)] [(.ref w_INT)])) rfl (hb hby d2_6)
  have q3 := fun t (kt : Go p e below T2 (mkF m 9 #[.val (.ref w_INT), .val (.ref w_REAL)] [(.ref w_REAL), (.ref w_INT)]) t) => q1 t (st2 t kt)
  have q4 := fun t (kt : Go p e below T2 (mkF m 24 #[.val (.ref w_INT), .val (.ref w_REAL)] [(.int (0 : Int32))]) t) => q3 t (by
    show Go p e below T2 (mkF m 9 #[.val (.ref w_INT), .val (.ref w_REAL)] [(.ref w_REAL), (.ref w_INT)]) _
    refine Jvm.RoadKit.acmp (g := (mkF m 9 #[.val (.ref w_INT), .val (.ref w_REAL)] [(.ref w_REAL), (.ref w_INT)])) X2 hx rfl rfl rfl (pc0 := 9) (pc' := 23) (same := false) rfl (hb hby d2_9) rfl (decide_eq_false (fun q => cx.2.2.2.2.2.2.2.2.2.2.2 (Value.ref.inj q))) (by decide) (by decide) ?_
    show Go p e below T2 (mkF m 23 #[.val (.ref w_INT), .val (.ref w_REAL)] []) _
    refine XS.iconst X2.here hx rfl (hb hby d2_23) ?_
    exact kt)
  exact ⟨some (.int (0 : Int32)), T2, _, _, _, _, X2, by decide, by decide, nofun, q4, fun fs hr => retN X2 hx (t := .boolean) hret (by simp) (hb hby d2_24) hr, by rw [e2]; exact ⟨rfl, N0, rfl⟩⟩
theorem d2_12 : decode prog_54_method_6_code 12 = .ok (.aload_n 1, 1) := by decide +kernel
theorem d2_13 : decode prog_54_method_6_code 13 = .ok (.getstatic 7, 3) := by decide +kernel
theorem d2_16 : decode prog_54_method_6_code 16 = .ok (.if_acmp .ne 7, 3) := by decide +kernel
def Q_rm2_2_0 (Z : State) (w_BOOL : Addr) (w_REAL : Addr) (w_INT : Addr) (h0 : Heap) (n0 : Nat) (v : Option Value) (h : Heap) (L : List Loc) : Prop := v = some (.int (0 : Int32)) ∧ Fr n0 L ∧ h = h0
theorem rm2_2_0 (l : Launch) (Z : State) (a0 : Array Value) (hw : ∀ d ∈ tables_1, d.before a0 Z = true) (ws : List Jvm.Cond) {w_BOOL : Addr} {w_REAL : Addr} {w_INT : Addr} (cx : Cx Z w_BOOL w_REAL w_INT) (h0 : Heap) (n0 : Nat) (O0 : Old Z n0 h0) :
    OwnMet l (⟨"com/example/sloth/sloth/model/Type", "accepts", "(Lcom/example/sloth/sloth/model/Type;)Z"⟩ : MethodName) (Jvm.Cond.code (⟨"com/example/sloth/sloth/model/Type", "accepts", "(Lcom/example/sloth/sloth/model/Type;)Z"⟩ : MethodName) prog_54_method_6_code 2 (some .boolean) :: ws) (own_R 0 0 0 0) #[(.ref w_REAL), (.ref w_BOOL)] Z h0 (Q_rm2_2_0 Z  w_BOOL w_REAL w_INT h0 n0) := by
  refine own_body (plainFor_of_name pn_2) hisR fun p e s m below meth c s₁ hx hby hml hown hnm hret hZ X0 e0 => ?_
  have N0 := Fr.nil n0
  have pre0 : ∀ t, Go p e below s₁ (mkF m 0 #[.val (.ref w_REAL), .val (.ref w_BOOL)] []) t → Go p e below s₁ (entryFrame m #[(.ref w_REAL), (.ref w_BOOL)] 2) t := fun t k => castTop (ef_2_RR m w_REAL w_BOOL) k
  have q1 := fun t (kt : Go p e below s₁ (mkF m 6 #[.val (.ref w_REAL), .val (.ref w_BOOL)] [(.ref w_REAL)]) t) => pre0 t (by
    show Go p e below s₁ (mkF m 0 #[.val (.ref w_REAL), .val (.ref w_BOOL)] []) _
    refine XS.aloadN X0.here hx rfl (hb hby d2_0) rfl rfl ?_
    show Go p e below s₁ (mkF m 1 #[.val (.ref w_REAL), .val (.ref w_BOOL)] [(.ref w_REAL)]) _
    refine XS.aloadN X0.here hx rfl (hb hby d2_1) rfl rfl ?_
    show Go p e below s₁ (mkF m 2 #[.val (.ref w_REAL), .val (.ref w_BOOL)] [(.ref w_BOOL), (.ref w_REAL)]) _
    refine Jvm.RoadKit.acmp (g := (mkF m 2 #[.val (.ref w_REAL), .val (.ref w_BOOL)] [(.ref w_BOOL), (.ref w_REAL)])) X0 hx rfl rfl rfl (pc0 := 2) (pc' := 5) (same := false) rfl (hb hby d2_2) rfl (decide_eq_false (fun q => (Ne.symm cx.2.2.2.2.2.2.2.2.2.2.1) (Value.ref.inj q))) (by decide) (by decide) ?_
    show Go p e below s₁ (mkF m 5 #[.val (.ref w_REAL), .val (.ref w_BOOL)] []) _
    refine XS.aloadN X0.here hx rfl (hb hby d2_5) rfl rfl ?_
    exact kt)
  obtain ⟨T2, X2, e2, st2⟩ := getS2 X0 hx hZ hown (host := "") (Or.inl (own_w hw 18 rfl)) Via.refl e0 (cx.2.2.1.ext O0.2) (g := (mkF m 6 #[.val (.ref w_REAL), .val (.ref w_BOOL)] [(.ref w_REAL)])) rfl (hb hby d2_6)
  have q3 := fun t (kt : Go p e below T2 (mkF m 9 #[.val (.ref w_REAL), .val (.ref w_BOOL)] [(.ref w_REAL), (.ref w_REAL)]) t) => q1 t (st2 t kt)
  have q4 := fun t (kt : Go p e below T2 (mkF m 13 #[.val (.ref w_REAL), .val (.ref w_BOOL)] [(.ref w_BOOL)]) t) => q3 t (by
    show Go p e below T2 (mkF m 9 #[.val (.ref w_REAL), .val (.ref w_BOOL)] [(.ref w_REAL), (.ref w_REAL)]) _
    refine Jvm.RoadKit.acmp (g := (mkF m 9 #[.val (.ref w_REAL), .val (.ref w_BOOL)] [(.ref w_REAL), (.ref w_REAL)])) X2 hx rfl rfl rfl (pc0 := 9) (pc' := 12) (same := true) rfl (hb hby d2_9) rfl (decide_eq_true rfl) (by decide) (by decide) ?_
    show Go p e below T2 (mkF m 12 #[.val (.ref w_REAL), .val (.ref w_BOOL)] []) _
    refine XS.aloadN X2.here hx rfl (hb hby d2_12) rfl rfl ?_
    exact kt)
  obtain ⟨T5, X5, e5, st5⟩ := getS2 X2 hx hZ hown (host := "") (Or.inl (own_w hw 19 rfl)) Via.refl e2 (cx.2.2.2.2.1.ext O0.2) (g := (mkF m 13 #[.val (.ref w_REAL), .val (.ref w_BOOL)] [(.ref w_BOOL)])) rfl (hb hby d2_13)
  have q6 := fun t (kt : Go p e below T5 (mkF m 16 #[.val (.ref w_REAL), .val (.ref w_BOOL)] [(.ref w_INT), (.ref w_BOOL)]) t) => q4 t (st5 t kt)
  have q7 := fun t (kt : Go p e below T5 (mkF m 24 #[.val (.ref w_REAL), .val (.ref w_BOOL)] [(.int (0 : Int32))]) t) => q6 t (by
    show Go p e below T5 (mkF m 16 #[.val (.ref w_REAL), .val (.ref w_BOOL)] [(.ref w_INT), (.ref w_BOOL)]) _
    refine Jvm.RoadKit.acmp (g := (mkF m 16 #[.val (.ref w_REAL), .val (.ref w_BOOL)] [(.ref w_INT), (.ref w_BOOL)])) X5 hx rfl rfl rfl (pc0 := 16) (pc' := 23) (same := false) rfl (hb hby d2_16) rfl (decide_eq_false (fun q => cx.2.2.2.2.2.2.2.2.2.1 (Value.ref.inj q))) (by decide) (by decide) ?_
    show Go p e below T5 (mkF m 23 #[.val (.ref w_REAL), .val (.ref w_BOOL)] []) _
    refine XS.iconst X5.here hx rfl (hb hby d2_23) ?_
    exact kt)
  exact ⟨some (.int (0 : Int32)), T5, _, _, _, _, X5, by decide, by decide, nofun, q7, fun fs hr => retN X5 hx (t := .boolean) hret (by simp) (hb hby d2_24) hr, by rw [e5]; exact ⟨rfl, N0, rfl⟩⟩
def Q_rm2_2_1 (Z : State) (w_BOOL : Addr) (w_REAL : Addr) (w_INT : Addr) (h0 : Heap) (n0 : Nat) (v : Option Value) (h : Heap) (L : List Loc) : Prop := v = some (.int (1 : Int32)) ∧ Fr n0 L ∧ h = h0
theorem rm2_2_1 (l : Launch) (Z : State) (a0 : Array Value) (hw : ∀ d ∈ tables_1, d.before a0 Z = true) (ws : List Jvm.Cond) {w_BOOL : Addr} {w_REAL : Addr} {w_INT : Addr} (cx : Cx Z w_BOOL w_REAL w_INT) (h0 : Heap) (n0 : Nat) (O0 : Old Z n0 h0) :
    OwnMet l (⟨"com/example/sloth/sloth/model/Type", "accepts", "(Lcom/example/sloth/sloth/model/Type;)Z"⟩ : MethodName) (Jvm.Cond.code (⟨"com/example/sloth/sloth/model/Type", "accepts", "(Lcom/example/sloth/sloth/model/Type;)Z"⟩ : MethodName) prog_54_method_6_code 2 (some .boolean) :: ws) (own_R 0 0 0 0) #[(.ref w_REAL), (.ref w_INT)] Z h0 (Q_rm2_2_1 Z  w_BOOL w_REAL w_INT h0 n0) := by
  refine own_body (plainFor_of_name pn_2) hisR fun p e s m below meth c s₁ hx hby hml hown hnm hret hZ X0 e0 => ?_
  have N0 := Fr.nil n0
  have pre0 : ∀ t, Go p e below s₁ (mkF m 0 #[.val (.ref w_REAL), .val (.ref w_INT)] []) t → Go p e below s₁ (entryFrame m #[(.ref w_REAL), (.ref w_INT)] 2) t := fun t k => castTop (ef_2_RR m w_REAL w_INT) k
  have q1 := fun t (kt : Go p e below s₁ (mkF m 6 #[.val (.ref w_REAL), .val (.ref w_INT)] [(.ref w_REAL)]) t) => pre0 t (by
    show Go p e below s₁ (mkF m 0 #[.val (.ref w_REAL), .val (.ref w_INT)] []) _
    refine XS.aloadN X0.here hx rfl (hb hby d2_0) rfl rfl ?_
    show Go p e below s₁ (mkF m 1 #[.val (.ref w_REAL), .val (.ref w_INT)] [(.ref w_REAL)]) _
    refine XS.aloadN X0.here hx rfl (hb hby d2_1) rfl rfl ?_
    show Go p e below s₁ (mkF m 2 #[.val (.ref w_REAL), .val (.ref w_INT)] [(.ref w_INT), (.ref w_REAL)]) _
    refine Jvm.RoadKit.acmp (g := (mkF m 2 #[.val (.ref w_REAL), .val (.ref w_INT)] [(.ref w_INT), (.ref w_REAL)])) X0 hx rfl rfl rfl (pc0 := 2) (pc' := 5) (same := false) rfl (hb hby d2_2) rfl (decide_eq_false (fun q => (Ne.symm cx.2.2.2.2.2.2.2.2.2.2.2) (Value.ref.inj q))) (by decide) (by decide) ?_
    show Go p e below s₁ (mkF m 5 #[.val (.ref w_REAL), .val (.ref w_INT)] []) _
    refine XS.aloadN X0.here hx rfl (hb hby d2_5) rfl rfl ?_
    exact kt)
  obtain ⟨T2, X2, e2, st2⟩ := getS2 X0 hx hZ hown (host := "") (Or.inl (own_w hw 18 rfl)) Via.refl e0 (cx.2.2.1.ext O0.2) (g := (mkF m 6 #[.val (.ref w_REAL), .val (.ref w_INT)] [(.ref w_REAL)])) rfl (hb hby d2_6)
  have q3 := fun t (kt : Go p e below T2 (mkF m 9 #[.val (.ref w_REAL), .val (.ref w_INT)] [(.ref w_REAL), (.ref w_REAL)]) t) => q1 t (st2 t kt)
  have q4 := fun t (kt : Go p e below T2 (mkF m 13 #[.val (.ref w_REAL), .val (.ref w_INT)] [(.ref w_INT)]) t) => q3 t (by
    show Go p e below T2 (mkF m 9 #[.val (.ref w_REAL), .val (.ref w_INT)] [(.ref w_REAL), (.ref w_REAL)]) _
    refine Jvm.RoadKit.acmp (g := (mkF m 9 #[.val (.ref w_REAL), .val (.ref w_INT)] [(.ref w_REAL), (.ref w_REAL)])) X2 hx rfl rfl rfl (pc0 := 9) (pc' := 12) (same := true) rfl (hb hby d2_9) rfl (decide_eq_true rfl) (by decide) (by decide) ?_
    show Go p e below T2 (mkF m 12 #[.val (.ref w_REAL), .val (.ref w_INT)] []) _
    refine XS.aloadN X2.here hx rfl (hb hby d2_12) rfl rfl ?_
    exact kt)
  obtain ⟨T5, X5, e5, st5⟩ := getS2 X2 hx hZ hown (host := "") (Or.inl (own_w hw 19 rfl)) Via.refl e2 (cx.2.2.2.2.1.ext O0.2) (g := (mkF m 13 #[.val (.ref w_REAL), .val (.ref w_INT)] [(.ref w_INT)])) rfl (hb hby d2_13)
  have q6 := fun t (kt : Go p e below T5 (mkF m 16 #[.val (.ref w_REAL), .val (.ref w_INT)] [(.ref w_INT), (.ref w_INT)]) t) => q4 t (st5 t kt)
  have q7 := fun t (kt : Go p e below T5 (mkF m 24 #[.val (.ref w_REAL), .val (.ref w_INT)] [(.int (1 : Int32))]) t) => q6 t (by
    show Go p e below T5 (mkF m 16 #[.val (.ref w_REAL), .val (.ref w_INT)] [(.ref w_INT), (.ref w_INT)]) _
    refine Jvm.RoadKit.acmp (g := (mkF m 16 #[.val (.ref w_REAL), .val (.ref w_INT)] [(.ref w_INT), (.ref w_INT)])) X5 hx rfl rfl rfl (pc0 := 16) (pc' := 19) (same := true) rfl (hb hby d2_16) rfl (decide_eq_true rfl) (by decide) (by decide) ?_
    show Go p e below T5 (mkF m 19 #[.val (.ref w_REAL), .val (.ref w_INT)] []) _
    refine XS.iconst X5.here hx rfl (hb hby d2_19) ?_
    show Go p e below T5 (mkF m 20 #[.val (.ref w_REAL), .val (.ref w_INT)] [(.int (1 : Int32))]) _
    refine XS.goto X5.here hx rfl (pc0 := 20) (pc' := 24) rfl (hb hby d2_20) (by decide) (by decide) ?_
    exact kt)
  exact ⟨some (.int (1 : Int32)), T5, _, _, _, _, X5, by decide, by decide, nofun, q7, fun fs hr => retN X5 hx (t := .boolean) hret (by simp) (hb hby d2_24) hr, by rw [e5]; exact ⟨rfl, N0, rfl⟩⟩
def Q_rm2_2_2 (Z : State) (w_BOOL : Addr) (w_REAL : Addr) (w_INT : Addr) (h0 : Heap) (n0 : Nat) (v : Option Value) (h : Heap) (L : List Loc) : Prop := v = some (.int (1 : Int32)) ∧ Fr n0 L ∧ h = h0
theorem rm2_2_2 (l : Launch) (Z : State) (a0 : Array Value) (hw : ∀ d ∈ tables_1, d.before a0 Z = true) (ws : List Jvm.Cond) {w_BOOL : Addr} {w_REAL : Addr} {w_INT : Addr} (cx : Cx Z w_BOOL w_REAL w_INT) (h0 : Heap) (n0 : Nat) (O0 : Old Z n0 h0) :
    OwnMet l (⟨"com/example/sloth/sloth/model/Type", "accepts", "(Lcom/example/sloth/sloth/model/Type;)Z"⟩ : MethodName) (Jvm.Cond.code (⟨"com/example/sloth/sloth/model/Type", "accepts", "(Lcom/example/sloth/sloth/model/Type;)Z"⟩ : MethodName) prog_54_method_6_code 2 (some .boolean) :: ws) (own_R 0 0 0 0) #[(.ref w_REAL), (.ref w_REAL)] Z h0 (Q_rm2_2_2 Z  w_BOOL w_REAL w_INT h0 n0) := by
  refine own_body (plainFor_of_name pn_2) hisR fun p e s m below meth c s₁ hx hby hml hown hnm hret hZ X0 e0 => ?_
  have N0 := Fr.nil n0
  have pre0 : ∀ t, Go p e below s₁ (mkF m 0 #[.val (.ref w_REAL), .val (.ref w_REAL)] []) t → Go p e below s₁ (entryFrame m #[(.ref w_REAL), (.ref w_REAL)] 2) t := fun t k => castTop (ef_2_RR m w_REAL w_REAL) k
  have q1 := fun t (kt : Go p e below s₁ (mkF m 24 #[.val (.ref w_REAL), .val (.ref w_REAL)] [(.int (1 : Int32))]) t) => pre0 t (by
    show Go p e below s₁ (mkF m 0 #[.val (.ref w_REAL), .val (.ref w_REAL)] []) _
    refine XS.aloadN X0.here hx rfl (hb hby d2_0) rfl rfl ?_
    show Go p e below s₁ (mkF m 1 #[.val (.ref w_REAL), .val (.ref w_REAL)] [(.ref w_REAL)]) _
    refine XS.aloadN X0.here hx rfl (hb hby d2_1) rfl rfl ?_
    show Go p e below s₁ (mkF m 2 #[.val (.ref w_REAL), .val (.ref w_REAL)] [(.ref w_REAL), (.ref w_REAL)]) _
    refine Jvm.RoadKit.acmp (g := (mkF m 2 #[.val (.ref w_REAL), .val (.ref w_REAL)] [(.ref w_REAL), (.ref w_REAL)])) X0 hx rfl rfl rfl (pc0 := 2) (pc' := 19) (same := true) rfl (hb hby d2_2) rfl (decide_eq_true rfl) (by decide) (by decide) ?_
    show Go p e below s₁ (mkF m 19 #[.val (.ref w_REAL), .val (.ref w_REAL)] []) _
    refine XS.iconst X0.here hx rfl (hb hby d2_19) ?_
    show Go p e below s₁ (mkF m 20 #[.val (.ref w_REAL), .val (.ref w_REAL)] [(.int (1 : Int32))]) _
    refine XS.goto X0.here hx rfl (pc0 := 20) (pc' := 24) rfl (hb hby d2_20) (by decide) (by decide) ?_
    exact kt)
  exact ⟨some (.int (1 : Int32)), s₁, _, _, _, _, X0, by decide, by decide, nofun, q1, fun fs hr => retN X0 hx (t := .boolean) hret (by simp) (hb hby d2_24) hr, by rw [e0]; exact ⟨rfl, N0, rfl⟩⟩
theorem ef_0_II (m : MethodId) (x0 : Int32) (x1 : Int32) : entryFrame m #[(.int x0), (.int x1)] maxLocals = mkF m 0 #[.val (.int x0), .val (.int x1), .unset, .unset, .unset, .unset] [] := by first | (simp [entryFrame, mkF, argsToLocals, Value.category, maxLocals]; done) | rfl
theorem pn_0 : plainName "com/example/sloth/sloth/model/TypeAcceptsPinLaw" = true := by first | (simp [plainName, overriddenIn]; done) | decide +kernel
theorem pd_0 : parseMethodDescriptor "(I)Lcom/example/sloth/sloth/model/Type;" = some ⟨[.int], some (.object "com/example/sloth/sloth/model/Type")⟩ := by decide +kernel
theorem pd_1 : parseMethodDescriptor "(Lcom/example/sloth/sloth/model/Type;)Z" = some ⟨[(.object "com/example/sloth/sloth/model/Type")], some .boolean⟩ := by decide +kernel
def Q_rm0 (Z : State) (p1 : Int32) (p2 : Int32) (w_BOOL : Addr) (w_REAL : Addr) (w_INT : Addr) (h0 : Heap) (n0 : Nat) (v : Option Value) (h : Heap) (L : List Loc) : Prop := v = some (.int (1 : Int32)) ∧ Fr n0 L
theorem rm0 (l : Launch) (Z : State) (a0 : Array Value) (hw : ∀ d ∈ tables_1, d.before a0 Z = true) (ws : List Jvm.Cond) {w_BOOL : Addr} {w_REAL : Addr} {w_INT : Addr} (cx : Cx Z w_BOOL w_REAL w_INT) (p1 : Int32) (p2 : Int32) (h0 : Heap) (n0 : Nat) (O0 : Old Z n0 h0) :
    OwnMet l x (Jvm.Cond.code x code maxLocals ret :: ws) room_1 #[(.int p1), (.int p2)] Z h0 (Q_rm0 Z p1 p2 w_BOOL w_REAL w_INT h0 n0) := by
  refine own_body (plainFor_of_name pn_0) hisR fun p e s m below meth c s₁ hx hby hml hown hnm hret hZ X0 e0 => ?_
  have N0 := Fr.nil n0
  have pre0 : ∀ t, Go p e below s₁ (mkF m 0 #[.val (.int p1), .val (.int p2), .unset, .unset, .unset, .unset] []) t → Go p e below s₁ (entryFrame m #[(.int p1), (.int p2)] maxLocals) t := fun t k => castTop (ef_0_II m p1 p2) k
  have q1 := fun t (kt : Go p e below s₁ (mkF m 16 #[.val (.int p1), .val (.int p2), .val (.int ((p1 &&& (2147483647 : Int32)) % (3 : Int32))), .val (.int ((p2 &&& (2147483647 : Int32)) % (3 : Int32))), .unset, .unset] [(.int (9 : Int32))]) t) => pre0 t (by
    show Go p e below s₁ (mkF m 0 #[.val (.int p1), .val (.int p2), .unset, .unset, .unset, .unset] []) _
    refine XS.iloadN X0.here hx rfl (hb hby at_0) rfl ?_
    show Go p e below s₁ (mkF m 1 #[.val (.int p1), .val (.int p2), .unset, .unset, .unset, .unset] [(.int p1)]) _
    refine X0.ldcInt hx hown (mvT hZ (own_w hw 0 rfl)) (g := (mkF m 1 #[.val (.int p1), .val (.int p2), .unset, .unset, .unset, .unset] [(.int p1)])) rfl (hb hby at_1) _ ?_
    show Go p e below s₁ (mkF m 3 #[.val (.int p1), .val (.int p2), .unset, .unset, .unset, .unset] [(.int (2147483647 : Int32)), (.int p1)]) _
    refine XS.iand X0.here hx rfl (hb hby at_3) rfl ?_
    show Go p e below s₁ (mkF m 4 #[.val (.int p1), .val (.int p2), .unset, .unset, .unset, .unset] [(.int (p1 &&& (2147483647 : Int32)))]) _
    refine XS.iconst X0.here hx rfl (hb hby at_4) ?_
    show Go p e below s₁ (mkF m 5 #[.val (.int p1), .val (.int p2), .unset, .unset, .unset, .unset] [(.int (3 : Int32)), (.int (p1 &&& (2147483647 : Int32)))]) _
    refine iremM (g := (mkF m 5 #[.val (.int p1), .val (.int p2), .unset, .unset, .unset, .unset] [(.int (3 : Int32)), (.int (p1 &&& (2147483647 : Int32)))])) X0 hx rfl (hb hby at_5) rfl (by decide : ¬ ((3 : Int32) = (0 : Int32))) ?_
    show Go p e below s₁ (mkF m 6 #[.val (.int p1), .val (.int p2), .unset, .unset, .unset, .unset] [(.int ((p1 &&& (2147483647 : Int32)) % (3 : Int32)))]) _
    refine XS.istoreN X0.here hx rfl (hb hby at_6) rfl (l' := #[.val (.int p1), .val (.int p2), .val (.int ((p1 &&& (2147483647 : Int32)) % (3 : Int32))), .unset, .unset, .unset]) rfl ?_
    show Go p e below s₁ (mkF m 7 #[.val (.int p1), .val (.int p2), .val (.int ((p1 &&& (2147483647 : Int32)) % (3 : Int32))), .unset, .unset, .unset] []) _
    refine XS.iloadN X0.here hx rfl (hb hby at_7) rfl ?_
    show Go p e below s₁ (mkF m 8 #[.val (.int p1), .val (.int p2), .val (.int ((p1 &&& (2147483647 : Int32)) % (3 : Int32))), .unset, .unset, .unset] [(.int p2)]) _
    refine X0.ldcInt hx hown (mvT hZ (own_w hw 0 rfl)) (g := (mkF m 8 #[.val (.int p1), .val (.int p2), .val (.int ((p1 &&& (2147483647 : Int32)) % (3 : Int32))), .unset, .unset, .unset] [(.int p2)])) rfl (hb hby at_8) _ ?_
    show Go p e below s₁ (mkF m 10 #[.val (.int p1), .val (.int p2), .val (.int ((p1 &&& (2147483647 : Int32)) % (3 : Int32))), .unset, .unset, .unset] [(.int (2147483647 : Int32)), (.int p2)]) _
    refine XS.iand X0.here hx rfl (hb hby at_10) rfl ?_
    show Go p e below s₁ (mkF m 11 #[.val (.int p1), .val (.int p2), .val (.int ((p1 &&& (2147483647 : Int32)) % (3 : Int32))), .unset, .unset, .unset] [(.int (p2 &&& (2147483647 : Int32)))]) _
    refine XS.iconst X0.here hx rfl (hb hby at_11) ?_
    show Go p e below s₁ (mkF m 12 #[.val (.int p1), .val (.int p2), .val (.int ((p1 &&& (2147483647 : Int32)) % (3 : Int32))), .unset, .unset, .unset] [(.int (3 : Int32)), (.int (p2 &&& (2147483647 : Int32)))]) _
    refine iremM (g := (mkF m 12 #[.val (.int p1), .val (.int p2), .val (.int ((p1 &&& (2147483647 : Int32)) % (3 : Int32))), .unset, .unset, .unset] [(.int (3 : Int32)), (.int (p2 &&& (2147483647 : Int32)))])) X0 hx rfl (hb hby at_12) rfl (by decide : ¬ ((3 : Int32) = (0 : Int32))) ?_
    show Go p e below s₁ (mkF m 13 #[.val (.int p1), .val (.int p2), .val (.int ((p1 &&& (2147483647 : Int32)) % (3 : Int32))), .unset, .unset, .unset] [(.int ((p2 &&& (2147483647 : Int32)) % (3 : Int32)))]) _
    refine XS.istoreN X0.here hx rfl (hb hby at_13) rfl (l' := #[.val (.int p1), .val (.int p2), .val (.int ((p1 &&& (2147483647 : Int32)) % (3 : Int32))), .val (.int ((p2 &&& (2147483647 : Int32)) % (3 : Int32))), .unset, .unset]) rfl ?_
    show Go p e below s₁ (mkF m 14 #[.val (.int p1), .val (.int p2), .val (.int ((p1 &&& (2147483647 : Int32)) % (3 : Int32))), .val (.int ((p2 &&& (2147483647 : Int32)) % (3 : Int32))), .unset, .unset] []) _
    refine XS.bipush X0.here hx rfl (hb hby at_14) ?_
    exact kt)
  obtain ⟨T2, h2, k2, X2, e2, E2, A2, st2⟩ := newP X0 hx hZ (own_w hw 1 rfl) e0 (g := (mkF m 16 #[.val (.int p1), .val (.int p2), .val (.int ((p1 &&& (2147483647 : Int32)) % (3 : Int32))), .val (.int ((p2 &&& (2147483647 : Int32)) % (3 : Int32))), .unset, .unset] [(.int (9 : Int32))])) rfl (hb hby at_16) rfl (by decide) (cap := 9) (by decide) (by decide) (by decide) (by decide)
  obtain ⟨b2, g2⟩ : ∃ z, z = h0.size := ⟨_, rfl⟩
  rw [← g2] at A2 st2
  have gg3 : n0 ≤ b2 := Nat.le_trans (O0.1 ▸ O0.2.1) (Nat.le_of_eq g2.symm)
  have q4 := fun t (kt : Go p e below T2 (mkF m 18 #[.val (.int p1), .val (.int p2), .val (.int ((p1 &&& (2147483647 : Int32)) % (3 : Int32))), .val (.int ((p2 &&& (2147483647 : Int32)) % (3 : Int32))), .unset, .unset] [(.ref b2)]) t) => q1 t (st2 t kt)
  have O5 : Old Z n0 h2 := O0.ext E2
  have V2 : Arv Z h2 b2 k2 .boolean (9 : Int32) [(.int (0 : Int32)), (.int (0 : Int32)), (.int (0 : Int32)), (.int (0 : Int32)), (.int (0 : Int32)), (.int (0 : Int32)), (.int (0 : Int32)), (.int (0 : Int32)), (.int (0 : Int32))] (.int (0 : Int32)) := (Arv.new A2 (by decide)).pad (pad_rep [] (.int (0 : Int32)) 9)
  have q7 := fun t (kt : Go p e below T2 (mkF m 21 #[.val (.int p1), .val (.int p2), .val (.int ((p1 &&& (2147483647 : Int32)) % (3 : Int32))), .val (.int ((p2 &&& (2147483647 : Int32)) % (3 : Int32))), .unset, .unset] [(.int (1 : Int32)), (.int (0 : Int32)), (.ref b2), (.ref b2)]) t) => q4 t (by
    show Go p e below T2 (mkF m 18 #[.val (.int p1), .val (.int p2), .val (.int ((p1 &&& (2147483647 : Int32)) % (3 : Int32))), .val (.int ((p2 &&& (2147483647 : Int32)) % (3 : Int32))), .unset, .unset] [(.ref b2)]) _
    refine XS.dup X2.here hx rfl (hb hby at_18) rfl rfl ?_
    show Go p e below T2 (mkF m 19 #[.val (.int p1), .val (.int p2), .val (.int ((p1 &&& (2147483647 : Int32)) % (3 : Int32))), .val (.int ((p2 &&& (2147483647 : Int32)) % (3 : Int32))), .unset, .unset] [(.ref b2), (.ref b2)]) _
    refine XS.iconst X2.here hx rfl (hb hby at_19) ?_
    show Go p e below T2 (mkF m 20 #[.val (.int p1), .val (.int p2), .val (.int ((p1 &&& (2147483647 : Int32)) % (3 : Int32))), .val (.int ((p2 &&& (2147483647 : Int32)) % (3 : Int32))), .unset, .unset] [(.int (0 : Int32)), (.ref b2), (.ref b2)]) _
    refine XS.iconst X2.here hx rfl (hb hby at_20) ?_
    exact kt)
  obtain ⟨c6, Ar6, q6, S6, N6, H6, G6⟩ := V2
  have hi6 : ¬ ((0 : Int32) < 0 ∨ c6.slots.size ≤ ((0 : Int32)).toNatClampNeg) := inb_of S6 ⟨by decide, by decide⟩
  obtain ⟨T8, h8, X8, e8, W8, st8⟩ := stZ X2 hx hZ e2 Ar6 (j := (0 : Int32)) hi6 (g := (mkF m 21 #[.val (.int p1), .val (.int p2), .val (.int ((p1 &&& (2147483647 : Int32)) % (3 : Int32))), .val (.int ((p2 &&& (2147483647 : Int32)) % (3 : Int32))), .unset, .unset] [(.int (1 : Int32)), (.int (0 : Int32)), (.ref b2), (.ref b2)])) rfl rfl (hb hby at_21)
  have q9 := fun t (kt : Go p e below T8 (mkF m 22 #[.val (.int p1), .val (.int p2), .val (.int ((p1 &&& (2147483647 : Int32)) % (3 : Int32))), .val (.int ((p2 &&& (2147483647 : Int32)) % (3 : Int32))), .unset, .unset] [(.ref b2)]) t) => q7 t (st8 t kt)
  have V8 : Arv Z h8 b2 k2 .boolean (9 : Int32) [(.int (1 : Int32)), (.int (0 : Int32)), (.int (0 : Int32)), (.int (0 : Int32)), (.int (0 : Int32)), (.int (0 : Int32)), (.int (0 : Int32)), (.int (0 : Int32)), (.int (0 : Int32))] (.int (0 : Int32)) := Arv.set Ar6 q6 S6 N6 H6 G6 (fits_nar_bool _) W8 0 rfl (Nat.le_of_ble_eq_true rfl)
  have N10 := Fr.snoc X8 N0 gg3
  have O11 : Old Z n0 h8 := O5.wr W8 gg3
  have q13 := fun t (kt : Go p e below T8 (mkF m 25 #[.val (.int p1), .val (.int p2), .val (.int ((p1 &&& (2147483647 : Int32)) % (3 : Int32))), .val (.int ((p2 &&& (2147483647 : Int32)) % (3 : Int32))), .unset, .unset] [(.int (0 : Int32)), (.int (1 : Int32)), (.ref b2), (.ref b2)]) t) => q9 t (by
    show Go p e below T8 (mkF m 22 #[.val (.int p1), .val (.int p2), .val (.int ((p1 &&& (2147483647 : Int32)) % (3 : Int32))), .val (.int ((p2 &&& (2147483647 : Int32)) % (3 : Int32))), .unset, .unset] [(.ref b2)]) _
    refine XS.dup X8.here hx rfl (hb hby at_22) rfl rfl ?_
    show Go p e below T8 (mkF m 23 #[.val (.int p1), .val (.int p2), .val (.int ((p1 &&& (2147483647 : Int32)) % (3 : Int32))), .val (.int ((p2 &&& (2147483647 : Int32)) % (3 : Int32))), .unset, .unset] [(.ref b2), (.ref b2)]) _
    refine XS.iconst X8.here hx rfl (hb hby at_23) ?_
    show Go p e below T8 (mkF m 24 #[.val (.int p1), .val (.int p2), .val (.int ((p1 &&& (2147483647 : Int32)) % (3 : Int32))), .val (.int ((p2 &&& (2147483647 : Int32)) % (3 : Int32))), .unset, .unset] [(.int (1 : Int32)), (.ref b2), (.ref b2)]) _
    refine XS.iconst X8.here hx rfl (hb hby at_24) ?_
    exact kt)
  obtain ⟨c12, Ar12, q12, S12, N12, H12, G12⟩ := V8
  have hi12 : ¬ ((1 : Int32) < 0 ∨ c12.slots.size ≤ ((1 : Int32)).toNatClampNeg) := inb_of S12 ⟨by decide, by decide⟩
  obtain ⟨T14, h14, X14, e14, W14, st14⟩ := stZ X8 hx hZ e8 Ar12 (j := (1 : Int32)) hi12 (g := (mkF m 25 #[.val (.int p1), .val (.int p2), .val (.int ((p1 &&& (2147483647 : Int32)) % (3 : Int32))), .val (.int ((p2 &&& (2147483647 : Int32)) % (3 : Int32))), .unset, .unset] [(.int (0 : Int32)), (.int (1 : Int32)), (.ref b2), (.ref b2)])) rfl rfl (hb hby at_25)
  have q15 := fun t (kt : Go p e below T14 (mkF m 26 #[.val (.int p1), .val (.int p2), .val (.int ((p1 &&& (2147483647 : Int32)) % (3 : Int32))), .val (.int ((p2 &&& (2147483647 : Int32)) % (3 : Int32))), .unset, .unset] [(.ref b2)]) t) => q13 t (st14 t kt)
  have V14 : Arv Z h14 b2 k2 .boolean (9 : Int32) [(.int (1 : Int32)), (.int (0 : Int32)), (.int (0 : Int32)), (.int (0 : Int32)), (.int (0 : Int32)), (.int (0 : Int32)), (.int (0 : Int32)), (.int (0 : Int32)), (.int (0 : Int32))] (.int (0 : Int32)) := Arv.set Ar12 q12 S12 N12 H12 G12 (fits_nar_bool _) W14 1 rfl (Nat.le_of_ble_eq_true rfl)
  have N16 := Fr.snoc X14 N10 gg3
  have O17 : Old Z n0 h14 := O11.wr W14 gg3
  have q19 := fun t (kt : Go p e below T14 (mkF m 29 #[.val (.int p1), .val (.int p2), .val (.int ((p1 &&& (2147483647 : Int32)) % (3 : Int32))), .val (.int ((p2 &&& (2147483647 : Int32)) % (3 : Int32))), .unset, .unset] [(.int (0 : Int32)), (.int (2 : Int32)), (.ref b2), (.ref b2)]) t) => q15 t (by
    show Go p e below T14 (mkF m 26 #[.val (.int p1), .val (.int p2), .val (.int ((p1 &&& (2147483647 : Int32)) % (3 : Int32))), .val (.int ((p2 &&& (2147483647 : Int32)) % (3 : Int32))), .unset, .unset] [(.ref b2)]) _
    refine XS.dup X14.here hx rfl (hb hby at_26) rfl rfl ?_
    show Go p e below T14 (mkF m 27 #[.val (.int p1), .val (.int p2), .val (.int ((p1 &&& (2147483647 : Int32)) % (3 : Int32))), .val (.int ((p2 &&& (2147483647 : Int32)) % (3 : Int32))), .unset, .unset] [(.ref b2), (.ref b2)]) _
    refine XS.iconst X14.here hx rfl (hb hby at_27) ?_
    show Go p e below T14 (mkF m 28 #[.val (.int p1), .val (.int p2), .val (.int ((p1 &&& (2147483647 : Int32)) % (3 : Int32))), .val (.int ((p2 &&& (2147483647 : Int32)) % (3 : Int32))), .unset, .unset] [(.int (2 : Int32)), (.ref b2), (.ref b2)]) _
    refine XS.iconst X14.here hx rfl (hb hby at_28) ?_
    exact kt)
  obtain ⟨c18, Ar18, q18, S18, N18, H18, G18⟩ := V14
  have hi18 : ¬ ((2 : Int32) < 0 ∨ c18.slots.size ≤ ((2 : Int32)).toNatClampNeg) := inb_of S18 ⟨by decide, by decide⟩
  obtain ⟨T20, h20, X20, e20, W20, st20⟩ := stZ X14 hx hZ e14 Ar18 (j := (2 : Int32)) hi18 (g := (mkF m 29 #[.val (.int p1), .val (.int p2), .val (.int ((p1 &&& (2147483647 : Int32)) % (3 : Int32))), .val (.int ((p2 &&& (2147483647 : Int32)) % (3 : Int32))), .unset, .unset] [(.int (0 : Int32)), (.int (2 : Int32)), (.ref b2), (.ref b2)])) rfl rfl (hb hby at_29)
  have q21 := fun t (kt : Go p e below T20 (mkF m 30 #[.val (.int p1), .val (.int p2), .val (.int ((p1 &&& (2147483647 : Int32)) % (3 : Int32))), .val (.int ((p2 &&& (2147483647 : Int32)) % (3 : Int32))), .unset, .unset] [(.ref b2)]) t) => q19 t (st20 t kt)
  have V20 : Arv Z h20 b2 k2 .boolean (9 : Int32) [(.int (1 : Int32)), (.int (0 : Int32)), (.int (0 : Int32)), (.int (0 : Int32)), (.int (0 : Int32)), (.int (0 : Int32)), (.int (0 : Int32)), (.int (0 : Int32)), (.int (0 : Int32))] (.int (0 : Int32)) := Arv.set Ar18 q18 S18 N18 H18 G18 (fits_nar_bool _) W20 2 rfl (Nat.le_of_ble_eq_true rfl)
  have N22 := Fr.snoc X20 N16 gg3
  have O23 : Old Z n0 h20 := O17.wr W20 gg3
  have q25 := fun t (kt : Go p e below T20 (mkF m 33 #[.val (.int p1), .val (.int p2), .val (.int ((p1 &&& (2147483647 : Int32)) % (3 : Int32))), .val (.int ((p2 &&& (2147483647 : Int32)) % (3 : Int32))), .unset, .unset] [(.int (0 : Int32)), (.int (3 : Int32)), (.ref b2), (.ref b2)]) t) => q21 t (by
    show Go p e below T20 (mkF m 30 #[.val (.int p1), .val (.int p2), .val (.int ((p1 &&& (2147483647 : Int32)) % (3 : Int32))), .val (.int ((p2 &&& (2147483647 : Int32)) % (3 : Int32))), .unset, .unset] [(.ref b2)]) _
    refine XS.dup X20.here hx rfl (hb hby at_30) rfl rfl ?_
    show Go p e below T20 (mkF m 31 #[.val (.int p1), .val (.int p2), .val (.int ((p1 &&& (2147483647 : Int32)) % (3 : Int32))), .val (.int ((p2 &&& (2147483647 : Int32)) % (3 : Int32))), .unset, .unset] [(.ref b2), (.ref b2)]) _
    refine XS.iconst X20.here hx rfl (hb hby at_31) ?_
    show Go p e below T20 (mkF m 32 #[.val (.int p1), .val (.int p2), .val (.int ((p1 &&& (2147483647 : Int32)) % (3 : Int32))), .val (.int ((p2 &&& (2147483647 : Int32)) % (3 : Int32))), .unset, .unset] [(.int (3 : Int32)), (.ref b2), (.ref b2)]) _
    refine XS.iconst X20.here hx rfl (hb hby at_32) ?_
    exact kt)
  obtain ⟨c24, Ar24, q24, S24, N24, H24, G24⟩ := V20
  have hi24 : ¬ ((3 : Int32) < 0 ∨ c24.slots.size ≤ ((3 : Int32)).toNatClampNeg) := inb_of S24 ⟨by decide, by decide⟩
  obtain ⟨T26, h26, X26, e26, W26, st26⟩ := stZ X20 hx hZ e20 Ar24 (j := (3 : Int32)) hi24 (g := (mkF m 33 #[.val (.int p1), .val (.int p2), .val (.int ((p1 &&& (2147483647 : Int32)) % (3 : Int32))), .val (.int ((p2 &&& (2147483647 : Int32)) % (3 : Int32))), .unset, .unset] [(.int (0 : Int32)), (.int (3 : Int32)), (.ref b2), (.ref b2)])) rfl rfl (hb hby at_33)
  have q27 := fun t (kt : Go p e below T26 (mkF m 34 #[.val (.int p1), .val (.int p2), .val (.int ((p1 &&& (2147483647 : Int32)) % (3 : Int32))), .val (.int ((p2 &&& (2147483647 : Int32)) % (3 : Int32))), .unset, .unset] [(.ref b2)]) t) => q25 t (st26 t kt)
  have V26 : Arv Z h26 b2 k2 .boolean (9 : Int32) [(.int (1 : Int32)), (.int (0 : Int32)), (.int (0 : Int32)), (.int (0 : Int32)), (.int (0 : Int32)), (.int (0 : Int32)), (.int (0 : Int32)), (.int (0 : Int32)), (.int (0 : Int32))] (.int (0 : Int32)) := Arv.set Ar24 q24 S24 N24 H24 G24 (fits_nar_bool _) W26 3 rfl (Nat.le_of_ble_eq_true rfl)
  have N28 := Fr.snoc X26 N22 gg3
  have O29 : Old Z n0 h26 := O23.wr W26 gg3
  have q31 := fun t (kt : Go p e below T26 (mkF m 37 #[.val (.int p1), .val (.int p2), .val (.int ((p1 &&& (2147483647 : Int32)) % (3 : Int32))), .val (.int ((p2 &&& (2147483647 : Int32)) % (3 : Int32))), .unset, .unset] [(.int (1 : Int32)), (.int (4 : Int32)), (.ref b2), (.ref b2)]) t) => q27 t (by
    show Go p e below T26 (mkF m 34 #[.val (.int p1), .val (.int p2), .val (.int ((p1 &&& (2147483647 : Int32)) % (3 : Int32))), .val (.int ((p2 &&& (2147483647 : Int32)) % (3 : Int32))), .unset, .unset] [(.ref b2)]) _
    refine XS.dup X26.here hx rfl (hb hby at_34) rfl rfl ?_
    show Go p e below T26 (mkF m 35 #[.val (.int p1), .val (.int p2), .val (.int ((p1 &&& (2147483647 : Int32)) % (3 : Int32))), .val (.int ((p2 &&& (2147483647 : Int32)) % (3 : Int32))), .unset, .unset] [(.ref b2), (.ref b2)]) _
    refine XS.iconst X26.here hx rfl (hb hby at_35) ?_
    show Go p e below T26 (mkF m 36 #[.val (.int p1), .val (.int p2), .val (.int ((p1 &&& (2147483647 : Int32)) % (3 : Int32))), .val (.int ((p2 &&& (2147483647 : Int32)) % (3 : Int32))), .unset, .unset] [(.int (4 : Int32)), (.ref b2), (.ref b2)]) _
    refine XS.iconst X26.here hx rfl (hb hby at_36) ?_
    exact kt)
  obtain ⟨c30, Ar30, q30, S30, N30, H30, G30⟩ := V26
  have hi30 : ¬ ((4 : Int32) < 0 ∨ c30.slots.size ≤ ((4 : Int32)).toNatClampNeg) := inb_of S30 ⟨by decide, by decide⟩
  obtain ⟨T32, h32, X32, e32, W32, st32⟩ := stZ X26 hx hZ e26 Ar30 (j := (4 : Int32)) hi30 (g := (mkF m 37 #[.val (.int p1), .val (.int p2), .val (.int ((p1 &&& (2147483647 : Int32)) % (3 : Int32))), .val (.int ((p2 &&& (2147483647 : Int32)) % (3 : Int32))), .unset, .unset] [(.int (1 : Int32)), (.int (4 : Int32)), (.ref b2), (.ref b2)])) rfl rfl (hb hby at_37)
  have q33 := fun t (kt : Go p e below T32 (mkF m 38 #[.val (.int p1), .val (.int p2), .val (.int ((p1 &&& (2147483647 : Int32)) % (3 : Int32))), .val (.int ((p2 &&& (2147483647 : Int32)) % (3 : Int32))), .unset, .unset] [(.ref b2)]) t) => q31 t (st32 t kt)
  have V32 : Arv Z h32 b2 k2 .boolean (9 : Int32) [(.int (1 : Int32)), (.int (0 : Int32)), (.int (0 : Int32)), (.int (0 : Int32)), (.int (1 : Int32)), (.int (0 : Int32)), (.int (0 : Int32)), (.int (0 : Int32)), (.int (0 : Int32))] (.int (0 : Int32)) := Arv.set Ar30 q30 S30 N30 H30 G30 (fits_nar_bool _) W32 4 rfl (Nat.le_of_ble_eq_true rfl)
  have N34 := Fr.snoc X32 N28 gg3
  have O35 : Old Z n0 h32 := O29.wr W32 gg3
  have q37 := fun t (kt : Go p e below T32 (mkF m 41 #[.val (.int p1), .val (.int p2), .val (.int ((p1 &&& (2147483647 : Int32)) % (3 : Int32))), .val (.int ((p2 &&& (2147483647 : Int32)) % (3 : Int32))), .unset, .unset] [(.int (0 : Int32)), (.int (5 : Int32)), (.ref b2), (.ref b2)]) t) => q33 t (by
    show Go p e below T32 (mkF m 38 #[.val (.int p1), .val (.int p2), .val (.int ((p1 &&& (2147483647 : Int32)) % (3 : Int32))), .val (.int ((p2 &&& (2147483647 : Int32)) % (3 : Int32))), .unset, .unset] [(.ref b2)]) _
    refine XS.dup X32.here hx rfl (hb hby at_38) rfl rfl ?_
    show Go p e below T32 (mkF m 39 #[.val (.int p1), .val (.int p2), .val (.int ((p1 &&& (2147483647 : Int32)) % (3 : Int32))), .val (.int ((p2 &&& (2147483647 : Int32)) % (3 : Int32))), .unset, .unset] [(.ref b2), (.ref b2)]) _
    refine XS.iconst X32.here hx rfl (hb hby at_39) ?_
    show Go p e below T32 (mkF m 40 #[.val (.int p1), .val (.int p2), .val (.int ((p1 &&& (2147483647 : Int32)) % (3 : Int32))), .val (.int ((p2 &&& (2147483647 : Int32)) % (3 : Int32))), .unset, .unset] [(.int (5 : Int32)), (.ref b2), (.ref b2)]) _
    refine XS.iconst X32.here hx rfl (hb hby at_40) ?_
    exact kt)
  obtain ⟨c36, Ar36, q36, S36, N36, H36, G36⟩ := V32
  have hi36 : ¬ ((5 : Int32) < 0 ∨ c36.slots.size ≤ ((5 : Int32)).toNatClampNeg) := inb_of S36 ⟨by decide, by decide⟩
  obtain ⟨T38, h38, X38, e38, W38, st38⟩ := stZ X32 hx hZ e32 Ar36 (j := (5 : Int32)) hi36 (g := (mkF m 41 #[.val (.int p1), .val (.int p2), .val (.int ((p1 &&& (2147483647 : Int32)) % (3 : Int32))), .val (.int ((p2 &&& (2147483647 : Int32)) % (3 : Int32))), .unset, .unset] [(.int (0 : Int32)), (.int (5 : Int32)), (.ref b2), (.ref b2)])) rfl rfl (hb hby at_41)
  have q39 := fun t (kt : Go p e below T38 (mkF m 42 #[.val (.int p1), .val (.int p2), .val (.int ((p1 &&& (2147483647 : Int32)) % (3 : Int32))), .val (.int ((p2 &&& (2147483647 : Int32)) % (3 : Int32))), .unset, .unset] [(.ref b2)]) t) => q37 t (st38 t kt)
  have V38 : Arv Z h38 b2 k2 .boolean (9 : Int32) [(.int (1 : Int32)), (.int (0 : Int32)), (.int (0 : Int32)), (.int (0 : Int32)), (.int (1 : Int32)), (.int (0 : Int32)), (.int (0 : Int32)), (.int (0 : Int32)), (.int (0 : Int32))] (.int (0 : Int32)) := Arv.set Ar36 q36 S36 N36 H36 G36 (fits_nar_bool _) W38 5 rfl (Nat.le_of_ble_eq_true rfl)
  have N40 := Fr.snoc X38 N34 gg3
  have O41 : Old Z n0 h38 := O35.wr W38 gg3
  have q43 := fun t (kt : Go p e below T38 (mkF m 46 #[.val (.int p1), .val (.int p2), .val (.int ((p1 &&& (2147483647 : Int32)) % (3 : Int32))), .val (.int ((p2 &&& (2147483647 : Int32)) % (3 : Int32))), .unset, .unset] [(.int (0 : Int32)), (.int (6 : Int32)), (.ref b2), (.ref b2)]) t) => q39 t (by
    show Go p e below T38 (mkF m 42 #[.val (.int p1), .val (.int p2), .val (.int ((p1 &&& (2147483647 : Int32)) % (3 : Int32))), .val (.int ((p2 &&& (2147483647 : Int32)) % (3 : Int32))), .unset, .unset] [(.ref b2)]) _
    refine XS.dup X38.here hx rfl (hb hby at_42) rfl rfl ?_
    show Go p e below T38 (mkF m 43 #[.val (.int p1), .val (.int p2), .val (.int ((p1 &&& (2147483647 : Int32)) % (3 : Int32))), .val (.int ((p2 &&& (2147483647 : Int32)) % (3 : Int32))), .unset, .unset] [(.ref b2), (.ref b2)]) _
    refine XS.bipush X38.here hx rfl (hb hby at_43) ?_
    show Go p e below T38 (mkF m 45 #[.val (.int p1), .val (.int p2), .val (.int ((p1 &&& (2147483647 : Int32)) % (3 : Int32))), .val (.int ((p2 &&& (2147483647 : Int32)) % (3 : Int32))), .unset, .unset] [(.int (6 : Int32)), (.ref b2), (.ref b2)]) _
    refine XS.iconst X38.here hx rfl (hb hby at_45) ?_
    exact kt)
  obtain ⟨c42, Ar42, q42, S42, N42, H42, G42⟩ := V38
  have hi42 : ¬ ((6 : Int32) < 0 ∨ c42.slots.size ≤ ((6 : Int32)).toNatClampNeg) := inb_of S42 ⟨by decide, by decide⟩
  obtain ⟨T44, h44, X44, e44, W44, st44⟩ := stZ X38 hx hZ e38 Ar42 (j := (6 : Int32)) hi42 (g := (mkF m 46 #[.val (.int p1), .val (.int p2), .val (.int ((p1 &&& (2147483647 : Int32)) % (3 : Int32))), .val (.int ((p2 &&& (2147483647 : Int32)) % (3 : Int32))), .unset, .unset] [(.int (0 : Int32)), (.int (6 : Int32)), (.ref b2), (.ref b2)])) rfl rfl (hb hby at_46)
  have q45 := fun t (kt : Go p e below T44 (mkF m 47 #[.val (.int p1), .val (.int p2), .val (.int ((p1 &&& (2147483647 : Int32)) % (3 : Int32))), .val (.int ((p2 &&& (2147483647 : Int32)) % (3 : Int32))), .unset, .unset] [(.ref b2)]) t) => q43 t (st44 t kt)
  have V44 : Arv Z h44 b2 k2 .boolean (9 : Int32) [(.int (1 : Int32)), (.int (0 : Int32)), (.int (0 : Int32)), (.int (0 : Int32)), (.int (1 : Int32)), (.int (0 : Int32)), (.int (0 : Int32)), (.int (0 : Int32)), (.int (0 : Int32))] (.int (0 : Int32)) := Arv.set Ar42 q42 S42 N42 H42 G42 (fits_nar_bool _) W44 6 rfl (Nat.le_of_ble_eq_true rfl)
  have N46 := Fr.snoc X44 N40 gg3
  have O47 : Old Z n0 h44 := O41.wr W44 gg3
  have q49 := fun t (kt : Go p e below T44 (mkF m 51 #[.val (.int p1), .val (.int p2), .val (.int ((p1 &&& (2147483647 : Int32)) % (3 : Int32))), .val (.int ((p2 &&& (2147483647 : Int32)) % (3 : Int32))), .unset, .unset] [(.int (1 : Int32)), (.int (7 : Int32)), (.ref b2), (.ref b2)]) t) => q45 t (by
    show Go p e below T44 (mkF m 47 #[.val (.int p1), .val (.int p2), .val (.int ((p1 &&& (2147483647 : Int32)) % (3 : Int32))), .val (.int ((p2 &&& (2147483647 : Int32)) % (3 : Int32))), .unset, .unset] [(.ref b2)]) _
    refine XS.dup X44.here hx rfl (hb hby at_47) rfl rfl ?_
    show Go p e below T44 (mkF m 48 #[.val (.int p1), .val (.int p2), .val (.int ((p1 &&& (2147483647 : Int32)) % (3 : Int32))), .val (.int ((p2 &&& (2147483647 : Int32)) % (3 : Int32))), .unset, .unset] [(.ref b2), (.ref b2)]) _
    refine XS.bipush X44.here hx rfl (hb hby at_48) ?_
    show Go p e below T44 (mkF m 50 #[.val (.int p1), .val (.int p2), .val (.int ((p1 &&& (2147483647 : Int32)) % (3 : Int32))), .val (.int ((p2 &&& (2147483647 : Int32)) % (3 : Int32))), .unset, .unset] [(.int (7 : Int32)), (.ref b2), (.ref b2)]) _
    refine XS.iconst X44.here hx rfl (hb hby at_50) ?_
    exact kt)
  obtain ⟨c48, Ar48, q48, S48, N48, H48, G48⟩ := V44
  have hi48 : ¬ ((7 : Int32) < 0 ∨ c48.slots.size ≤ ((7 : Int32)).toNatClampNeg) := inb_of S48 ⟨by decide, by decide⟩
  obtain ⟨T50, h50, X50, e50, W50, st50⟩ := stZ X44 hx hZ e44 Ar48 (j := (7 : Int32)) hi48 (g := (mkF m 51 #[.val (.int p1), .val (.int p2), .val (.int ((p1 &&& (2147483647 : Int32)) % (3 : Int32))), .val (.int ((p2 &&& (2147483647 : Int32)) % (3 : Int32))), .unset, .unset] [(.int (1 : Int32)), (.int (7 : Int32)), (.ref b2), (.ref b2)])) rfl rfl (hb hby at_51)
  have q51 := fun t (kt : Go p e below T50 (mkF m 52 #[.val (.int p1), .val (.int p2), .val (.int ((p1 &&& (2147483647 : Int32)) % (3 : Int32))), .val (.int ((p2 &&& (2147483647 : Int32)) % (3 : Int32))), .unset, .unset] [(.ref b2)]) t) => q49 t (st50 t kt)
  have V50 : Arv Z h50 b2 k2 .boolean (9 : Int32) [(.int (1 : Int32)), (.int (0 : Int32)), (.int (0 : Int32)), (.int (0 : Int32)), (.int (1 : Int32)), (.int (0 : Int32)), (.int (0 : Int32)), (.int (1 : Int32)), (.int (0 : Int32))] (.int (0 : Int32)) := Arv.set Ar48 q48 S48 N48 H48 G48 (fits_nar_bool _) W50 7 rfl (Nat.le_of_ble_eq_true rfl)
  have N52 := Fr.snoc X50 N46 gg3
  have O53 : Old Z n0 h50 := O47.wr W50 gg3
  have q55 := fun t (kt : Go p e below T50 (mkF m 56 #[.val (.int p1), .val (.int p2), .val (.int ((p1 &&& (2147483647 : Int32)) % (3 : Int32))), .val (.int ((p2 &&& (2147483647 : Int32)) % (3 : Int32))), .unset, .unset] [(.int (1 : Int32)), (.int (8 : Int32)), (.ref b2), (.ref b2)]) t) => q51 t (by
    show Go p e below T50 (mkF m 52 #[.val (.int p1), .val (.int p2), .val (.int ((p1 &&& (2147483647 : Int32)) % (3 : Int32))), .val (.int ((p2 &&& (2147483647 : Int32)) % (3 : Int32))), .unset, .unset] [(.ref b2)]) _
    refine XS.dup X50.here hx rfl (hb hby at_52) rfl rfl ?_
    show Go p e below T50 (mkF m 53 #[.val (.int p1), .val (.int p2), .val (.int ((p1 &&& (2147483647 : Int32)) % (3 : Int32))), .val (.int ((p2 &&& (2147483647 : Int32)) % (3 : Int32))), .unset, .unset] [(.ref b2), (.ref b2)]) _
    refine XS.bipush X50.here hx rfl (hb hby at_53) ?_
    show Go p e below T50 (mkF m 55 #[.val (.int p1), .val (.int p2), .val (.int ((p1 &&& (2147483647 : Int32)) % (3 : Int32))), .val (.int ((p2 &&& (2147483647 : Int32)) % (3 : Int32))), .unset, .unset] [(.int (8 : Int32)), (.ref b2), (.ref b2)]) _
    refine XS.iconst X50.here hx rfl (hb hby at_55) ?_
    exact kt)
  obtain ⟨c54, Ar54, q54, S54, N54, H54, G54⟩ := V50
  have hi54 : ¬ ((8 : Int32) < 0 ∨ c54.slots.size ≤ ((8 : Int32)).toNatClampNeg) := inb_of S54 ⟨by decide, by decide⟩
  obtain ⟨T56, h56, X56, e56, W56, st56⟩ := stZ X50 hx hZ e50 Ar54 (j := (8 : Int32)) hi54 (g := (mkF m 56 #[.val (.int p1), .val (.int p2), .val (.int ((p1 &&& (2147483647 : Int32)) % (3 : Int32))), .val (.int ((p2 &&& (2147483647 : Int32)) % (3 : Int32))), .unset, .unset] [(.int (1 : Int32)), (.int (8 : Int32)), (.ref b2), (.ref b2)])) rfl rfl (hb hby at_56)
  have q57 := fun t (kt : Go p e below T56 (mkF m 57 #[.val (.int p1), .val (.int p2), .val (.int ((p1 &&& (2147483647 : Int32)) % (3 : Int32))), .val (.int ((p2 &&& (2147483647 : Int32)) % (3 : Int32))), .unset, .unset] [(.ref b2)]) t) => q55 t (st56 t kt)
  have V56 : Arv Z h56 b2 k2 .boolean (9 : Int32) [(.int (1 : Int32)), (.int (0 : Int32)), (.int (0 : Int32)), (.int (0 : Int32)), (.int (1 : Int32)), (.int (0 : Int32)), (.int (0 : Int32)), (.int (1 : Int32)), (.int (1 : Int32))] (.int (0 : Int32)) := Arv.set Ar54 q54 S54 N54 H54 G54 (fits_nar_bool _) W56 8 rfl (Nat.le_of_ble_eq_true rfl)
  have N58 := Fr.snoc X56 N52 gg3
  have O59 : Old Z n0 h56 := O53.wr W56 gg3
  have q60 := fun t (kt : Go p e below T56 (mkF m 59 #[.val (.int p1), .val (.int p2), .val (.int ((p1 &&& (2147483647 : Int32)) % (3 : Int32))), .val (.int ((p2 &&& (2147483647 : Int32)) % (3 : Int32))), .val (.ref b2), .unset] []) t) => q57 t (by
    show Go p e below T56 (mkF m 57 #[.val (.int p1), .val (.int p2), .val (.int ((p1 &&& (2147483647 : Int32)) % (3 : Int32))), .val (.int ((p2 &&& (2147483647 : Int32)) % (3 : Int32))), .unset, .unset] [(.ref b2)]) _
    refine XS.astore X56.here hx rfl (hb hby at_57) rfl rfl (l' := #[.val (.int p1), .val (.int p2), .val (.int ((p1 &&& (2147483647 : Int32)) % (3 : Int32))), .val (.int ((p2 &&& (2147483647 : Int32)) % (3 : Int32))), .val (.ref b2), .unset]) rfl ?_
    exact kt)
  rcases own_mod3 p1 with hi | hi | hi
  · skip
    have q61 := fun t (kt : Go p e below T56 (mkF m 59 #[.val (.int p1), .val (.int p2), .val (.int (0 : Int32)), .val (.int ((p2 &&& (2147483647 : Int32)) % (3 : Int32))), .val (.ref b2), .unset] []) t) => q60 t (by rw [hi]; exact kt)
    rcases own_mod3 p2 with hj | hj | hj
    · skip
      have q62 := fun t (kt : Go p e below T56 (mkF m 59 #[.val (.int p1), .val (.int p2), .val (.int (0 : Int32)), .val (.int (0 : Int32)), .val (.ref b2), .unset] []) t) => q61 t (by rw [hj]; exact kt)
      have q64 := fun t (kt : Go p e below T56 (mkF m 66 #[.val (.int p1), .val (.int p2), .val (.int (0 : Int32)), .val (.int (0 : Int32)), .val (.ref b2), .unset] [(.int (0 : Int32)), (.ref b2)]) t) => q62 t (by
        show Go p e below T56 (mkF m 59 #[.val (.int p1), .val (.int p2), .val (.int (0 : Int32)), .val (.int (0 : Int32)), .val (.ref b2), .unset] []) _
        refine XS.aload X56.here hx rfl (hb hby at_59) rfl rfl ?_
        show Go p e below T56 (mkF m 61 #[.val (.int p1), .val (.int p2), .val (.int (0 : Int32)), .val (.int (0 : Int32)), .val (.ref b2), .unset] [(.ref b2)]) _
        refine XS.iloadN X56.here hx rfl (hb hby at_61) rfl ?_
        show Go p e below T56 (mkF m 62 #[.val (.int p1), .val (.int p2), .val (.int (0 : Int32)), .val (.int (0 : Int32)), .val (.ref b2), .unset] [(.int (0 : Int32)), (.ref b2)]) _
        refine XS.iconst X56.here hx rfl (hb hby at_62) ?_
        show Go p e below T56 (mkF m 63 #[.val (.int p1), .val (.int p2), .val (.int (0 : Int32)), .val (.int (0 : Int32)), .val (.ref b2), .unset] [(.int (3 : Int32)), (.int (0 : Int32)), (.ref b2)]) _
        refine XS.imul X56.here hx rfl (hb hby at_63) rfl ?_
        show Go p e below T56 (mkF m 64 #[.val (.int p1), .val (.int p2), .val (.int (0 : Int32)), .val (.int (0 : Int32)), .val (.ref b2), .unset] [(.int (0 : Int32)), (.ref b2)]) _
        refine XS.iloadN X56.here hx rfl (hb hby at_64) rfl ?_
        show Go p e below T56 (mkF m 65 #[.val (.int p1), .val (.int p2), .val (.int (0 : Int32)), .val (.int (0 : Int32)), .val (.ref b2), .unset] [(.int (0 : Int32)), (.int (0 : Int32)), (.ref b2)]) _
        refine XS.iadd X56.here hx rfl (hb hby at_65) rfl ?_
        exact kt)
      obtain ⟨c63, Ar63, -, S63, N63, H63, -⟩ := V56
      have q65 := fun t (kt : Go p e below T56 (mkF m 70 #[.val (.int p1), .val (.int p2), .val (.int (0 : Int32)), .val (.int (0 : Int32)), .val (.ref b2), .val (.int (1 : Int32))] [(.int (0 : Int32))]) t) => q64 t (by
        show Go p e below T56 (mkF m 66 #[.val (.int p1), .val (.int p2), .val (.int (0 : Int32)), .val (.int (0 : Int32)), .val (.ref b2), .unset] [(.int (0 : Int32)), (.ref b2)]) _
        refine X56.baloadBooleans hx (j := (0 : Int32)) (v := (.int (1 : Int32))) (by rw [e56]; exact Ar63.1) (State.isArrayOf_alike hZ.alike Ar63.2.1) Ar63.2.2 (inb_of S63 ⟨by decide, by decide⟩) (Has.at H63 (inb_of S63 ⟨by decide, by decide⟩) rfl) (g := (mkF m 66 #[.val (.int p1), .val (.int p2), .val (.int (0 : Int32)), .val (.int (0 : Int32)), .val (.ref b2), .unset] [(.int (0 : Int32)), (.ref b2)])) rfl rfl (hb hby at_66) _ ?_
        show Go p e below T56 (mkF m 67 #[.val (.int p1), .val (.int p2), .val (.int (0 : Int32)), .val (.int (0 : Int32)), .val (.ref b2), .unset] [(.int (1 : Int32))]) _
        refine XS.istore X56.here hx rfl (hb hby at_67) rfl (l' := #[.val (.int p1), .val (.int p2), .val (.int (0 : Int32)), .val (.int (0 : Int32)), .val (.ref b2), .val (.int (1 : Int32))]) rfl ?_
        show Go p e below T56 (mkF m 69 #[.val (.int p1), .val (.int p2), .val (.int (0 : Int32)), .val (.int (0 : Int32)), .val (.ref b2), .val (.int (1 : Int32))] []) _
        refine XS.iloadN X56.here hx rfl (hb hby at_69) rfl ?_
        exact kt)
      obtain ⟨_, _, ⟨T66, L66, k66, n66⟩, -, X66, ⟨Lc66, hQ66, l66, y66, z66⟩, st66⟩ := Jvm.LawKit.callS X56 hx (y := (⟨"com/example/sloth/sloth/model/TypeAcceptsPinLaw", "pick", "(I)Lcom/example/sloth/sloth/model/Type;"⟩ : MethodName)) hown (mvT hZ (own_w hw 2 rfl)) (mvT hZ (own_w hw 3 rfl)) (mvT hZ (own_w hw 4 rfl)) (mvT hZ (own_w hw 5 rfl)) (by decide) (backOf (W := 0) (rm1_0 l Z a0 hw [] cx  h56 n0 O59 ) hZ (own_w hw 5 rfl) (own_w hw 4 rfl) (by decide) (by decide)) (g := (mkF m 70 #[.val (.int p1), .val (.int p2), .val (.int (0 : Int32)), .val (.int (0 : Int32)), .val (.ref b2), .val (.int (1 : Int32))] [(.int (0 : Int32))])) rfl (by rw [hml]; rfl) (argsL := [(.int (0 : Int32))]) (rest := []) (lenOf pd_0 rfl) rfl (by show 2 * 0 + _ ≤ _; exact Nat.le_of_eq rfl) (hb hby at_70) (fun _ _ => ⟨rfl, e56, (by decide : 1 + 0 ≤ _), (by decide : 9 + 0 ≤ _)⟩)
      dsimp only [Pt.U, Pt.locs, Pt.cells, Pt.slots] at X66 l66 y66 z66 st66 hQ66
      subst l66 y66 z66
      obtain ⟨rfl, Nq66, eq66⟩ := hQ66
      have N67 := Fr.app N58 Nq66
      have q68 := fun t (kt : Go p e below T66 (mkF m 73 #[.val (.int p1), .val (.int p2), .val (.int (0 : Int32)), .val (.int (0 : Int32)), .val (.ref b2), .val (.int (1 : Int32))] [(.ref w_BOOL)]) t) => q65 t (st66 t kt)
      have q69 := fun t (kt : Go p e below T66 (mkF m 74 #[.val (.int p1), .val (.int p2), .val (.int (0 : Int32)), .val (.int (0 : Int32)), .val (.ref b2), .val (.int (1 : Int32))] [(.int (0 : Int32)), (.ref w_BOOL)]) t) => q68 t (by
        show Go p e below T66 (mkF m 73 #[.val (.int p1), .val (.int p2), .val (.int (0 : Int32)), .val (.int (0 : Int32)), .val (.ref b2), .val (.int (1 : Int32))] [(.ref w_BOOL)]) _
        refine XS.iloadN X66.here hx rfl (hb hby at_73) rfl ?_
        exact kt)
      obtain ⟨_, _, ⟨T70, L70, k70, n70⟩, -, X70, ⟨Lc70, hQ70, l70, y70, z70⟩, st70⟩ := Jvm.LawKit.callS X66 hx (y := (⟨"com/example/sloth/sloth/model/TypeAcceptsPinLaw", "pick", "(I)Lcom/example/sloth/sloth/model/Type;"⟩ : MethodName)) hown (mvT hZ (own_w hw 2 rfl)) (mvT hZ (own_w hw 3 rfl)) (mvT hZ (own_w hw 4 rfl)) (mvT hZ (own_w hw 5 rfl)) (by decide) (backOf (W := 1) (rm1_0 l Z a0 hw [] cx  h56 n0 O59 ) hZ (own_w hw 5 rfl) (own_w hw 4 rfl) (by decide) (by decide)) (g := (mkF m 74 #[.val (.int p1), .val (.int p2), .val (.int (0 : Int32)), .val (.int (0 : Int32)), .val (.ref b2), .val (.int (1 : Int32))] [(.int (0 : Int32)), (.ref w_BOOL)])) rfl (by rw [hml]; rfl) (argsL := [(.int (0 : Int32))]) (rest := [(.ref w_BOOL)]) (lenOf pd_0 rfl) rfl (by show 2 * 0 + _ ≤ _; exact Nat.le_of_eq rfl) (hb hby at_74) (fun _ _ => ⟨rfl, eq66, (by decide : 1 + 0 ≤ _), (by decide : 9 + 0 ≤ _)⟩)
      dsimp only [Pt.U, Pt.locs, Pt.cells, Pt.slots] at X70 l70 y70 z70 st70 hQ70
      subst l70 y70 z70
      obtain ⟨rfl, Nq70, eq70⟩ := hQ70
      have N71 := Fr.app N67 Nq70
      have q72 := fun t (kt : Go p e below T70 (mkF m 77 #[.val (.int p1), .val (.int p2), .val (.int (0 : Int32)), .val (.int (0 : Int32)), .val (.ref b2), .val (.int (1 : Int32))] [(.ref w_BOOL), (.ref w_BOOL)]) t) => q69 t (st70 t kt)
      obtain ⟨cq74, kq74, q74a, q74b, q74c⟩ := isOf hZ eq70 (cx.2.1.ext O59.2)
      obtain ⟨_, _, ⟨T73, L73, k73, n73⟩, -, X73, ⟨Lc73, hQ73, l73, y73, z73⟩, st73⟩ := X70.virtualBack hx (y := (⟨"com/example/sloth/sloth/model/Type", "accepts", "(Lcom/example/sloth/sloth/model/Type;)Z"⟩ : MethodName)) (z := (⟨"com/example/sloth/sloth/model/Type", "accepts", "(Lcom/example/sloth/sloth/model/Type;)Z"⟩ : MethodName)) hown (mvT hZ (own_w hw 9 rfl)) (mvT hZ (own_w hw 10 rfl)) (notFace_of_selects (args := #[]) (mvT hZ (own_w hw 12 rfl))) (mvT hZ (own_w hw 12 rfl)) (mvT hZ (own_w hw 11 rfl)) (by decide) (backOf (W := 0) (rm2_0_0 l Z a0 hw [] cx  h56 n0 O59 ) hZ (own_w hw 13 rfl) (own_w hw 7 rfl) (by decide) (by decide)) q74a q74c (g := (mkF m 77 #[.val (.int p1), .val (.int p2), .val (.int (0 : Int32)), .val (.int (0 : Int32)), .val (.ref b2), .val (.int (1 : Int32))] [(.ref w_BOOL), (.ref w_BOOL)])) rfl (by rw [hml]; rfl) (Steps.refl _) (argsL := [(.ref w_BOOL)]) (rest := []) (lenOf pd_1 rfl) rfl (by show 2 * 0 + _ ≤ _; exact Nat.le_of_eq rfl) (hb hby at_77) (fun _ _ => ⟨rfl, eq70, (by decide : 1 + 0 ≤ _), (by decide : 9 + 0 ≤ _)⟩)
      dsimp only [Pt.U, Pt.locs, Pt.cells, Pt.slots] at X73 l73 y73 z73 st73 hQ73
      subst l73 y73 z73
      obtain ⟨rfl, Nq73, eq73⟩ := hQ73
      have N75 := Fr.app N71 Nq73
      have q76 := fun t (kt : Go p e below T73 (mkF m 80 #[.val (.int p1), .val (.int p2), .val (.int (0 : Int32)), .val (.int (0 : Int32)), .val (.ref b2), .val (.int (1 : Int32))] [(.int (1 : Int32))]) t) => q72 t (st73.trans kt)
      have q77 := fun t (kt : Go p e below T73 (mkF m 90 #[.val (.int p1), .val (.int p2), .val (.int (0 : Int32)), .val (.int (0 : Int32)), .val (.ref b2), .val (.int (1 : Int32))] [(.int (1 : Int32))]) t) => q76 t (by
        show Go p e below T73 (mkF m 80 #[.val (.int p1), .val (.int p2), .val (.int (0 : Int32)), .val (.int (0 : Int32)), .val (.ref b2), .val (.int (1 : Int32))] [(.int (1 : Int32))]) _
        refine XS.iload X73.here hx rfl (hb hby at_80) rfl ?_
        show Go p e below T73 (mkF m 82 #[.val (.int p1), .val (.int p2), .val (.int (0 : Int32)), .val (.int (0 : Int32)), .val (.ref b2), .val (.int (1 : Int32))] [(.int (1 : Int32)), (.int (1 : Int32))]) _
        refine XS.icmpNo X73.here hx rfl (hb hby at_82) rfl (teq (rfl : (1 : Int32) = (1 : Int32))).2 ?_
        show Go p e below T73 (mkF m 85 #[.val (.int p1), .val (.int p2), .val (.int (0 : Int32)), .val (.int (0 : Int32)), .val (.ref b2), .val (.int (1 : Int32))] []) _
        refine XS.iconst X73.here hx rfl (hb hby at_85) ?_
        show Go p e below T73 (mkF m 86 #[.val (.int p1), .val (.int p2), .val (.int (0 : Int32)), .val (.int (0 : Int32)), .val (.ref b2), .val (.int (1 : Int32))] [(.int (1 : Int32))]) _
        refine XS.goto X73.here hx rfl (pc0 := 86) (pc' := 90) rfl (hb hby at_86) (by decide) (by decide) ?_
        exact kt)
      exact ⟨some (.int (1 : Int32)), T73, _, _, _, _, X73, by decide, by decide, nofun, q77, fun fs hr => retN X73 hx (t := .boolean) hret (by simp) (hb hby at_90) hr, by rw [eq73]; exact ⟨rfl, N75⟩⟩
    · skip
      have q78 := fun t (kt : Go p e below T56 (mkF m 59 #[.val (.int p1), .val (.int p2), .val (.int (0 : Int32)), .val (.int (1 : Int32)), .val (.ref b2), .unset] []) t) => q61 t (by rw [hj]; exact kt)
      have q80 := fun t (kt : Go p e below T56 (mkF m 66 #[.val (.int p1), .val (.int p2), .val (.int (0 : Int32)), .val (.int (1 : Int32)), .val (.ref b2), .unset] [(.int (1 : Int32)), (.ref b2)]) t) => q78 t (by
        show Go p e below T56 (mkF m 59 #[.val (.int p1), .val (.int p2), .val (.int (0 : Int32)), .val (.int (1 : Int32)), .val (.ref b2), .unset] []) _
        refine XS.aload X56.here hx rfl (hb hby at_59) rfl rfl ?_
        show Go p e below T56 (mkF m 61 #[.val (.int p1), .val (.int p2), .val (.int (0 : Int32)), .val (.int (1 : Int32)), .val (.ref b2), .unset] [(.ref b2)]) _
        refine XS.iloadN X56.here hx rfl (hb hby at_61) rfl ?_
        show Go p e below T56 (mkF m 62 #[.val (.int p1), .val (.int p2), .val (.int (0 : Int32)), .val (.int (1 : Int32)), .val (.ref b2), .unset] [(.int (0 : Int32)), (.ref b2)]) _
        refine XS.iconst X56.here hx rfl (hb hby at_62) ?_
        show Go p e below T56 (mkF m 63 #[.val (.int p1), .val (.int p2), .val (.int (0 : Int32)), .val (.int (1 : Int32)), .val (.ref b2), .unset] [(.int (3 : Int32)), (.int (0 : Int32)), (.ref b2)]) _
        refine XS.imul X56.here hx rfl (hb hby at_63) rfl ?_
        show Go p e below T56 (mkF m 64 #[.val (.int p1), .val (.int p2), .val (.int (0 : Int32)), .val (.int (1 : Int32)), .val (.ref b2), .unset] [(.int (0 : Int32)), (.ref b2)]) _
        refine XS.iloadN X56.here hx rfl (hb hby at_64) rfl ?_
        show Go p e below T56 (mkF m 65 #[.val (.int p1), .val (.int p2), .val (.int (0 : Int32)), .val (.int (1 : Int32)), .val (.ref b2), .unset] [(.int (1 : Int32)), (.int (0 : Int32)), (.ref b2)]) _
        refine XS.iadd X56.here hx rfl (hb hby at_65) rfl ?_
        exact kt)
      obtain ⟨c79, Ar79, -, S79, N79, H79, -⟩ := V56
      have q81 := fun t (kt : Go p e below T56 (mkF m 70 #[.val (.int p1), .val (.int p2), .val (.int (0 : Int32)), .val (.int (1 : Int32)), .val (.ref b2), .val (.int (0 : Int32))] [(.int (0 : Int32))]) t) => q80 t (by
        show Go p e below T56 (mkF m 66 #[.val (.int p1), .val (.int p2), .val (.int (0 : Int32)), .val (.int (1 : Int32)), .val (.ref b2), .unset] [(.int (1 : Int32)), (.ref b2)]) _
        refine X56.baloadBooleans hx (j := (1 : Int32)) (v := (.int (0 : Int32))) (by rw [e56]; exact Ar79.1) (State.isArrayOf_alike hZ.alike Ar79.2.1) Ar79.2.2 (inb_of S79 ⟨by decide, by decide⟩) (Has.at H79 (inb_of S79 ⟨by decide, by decide⟩) rfl) (g := (mkF m 66 #[.val (.int p1), .val (.int p2), .val (.int (0 : Int32)), .val (.int (1 : Int32)), .val (.ref b2), .unset] [(.int (1 : Int32)), (.ref b2)])) rfl rfl (hb hby at_66) _ ?_
        show Go p e below T56 (mkF m 67 #[.val (.int p1), .val (.int p2), .val (.int (0 : Int32)), .val (.int (1 : Int32)), .val (.ref b2), .unset] [(.int (0 : Int32))]) _
        refine XS.istore X56.here hx rfl (hb hby at_67) rfl (l' := #[.val (.int p1), .val (.int p2), .val (.int (0 : Int32)), .val (.int (1 : Int32)), .val (.ref b2), .val (.int (0 : Int32))]) rfl ?_
        show Go p e below T56 (mkF m 69 #[.val (.int p1), .val (.int p2), .val (.int (0 : Int32)), .val (.int (1 : Int32)), .val (.ref b2), .val (.int (0 : Int32))] []) _
        refine XS.iloadN X56.here hx rfl (hb hby at_69) rfl ?_
        exact kt)
      obtain ⟨_, _, ⟨T82, L82, k82, n82⟩, -, X82, ⟨Lc82, hQ82, l82, y82, z82⟩, st82⟩ := Jvm.LawKit.callS X56 hx (y := (⟨"com/example/sloth/sloth/model/TypeAcceptsPinLaw", "pick", "(I)Lcom/example/sloth/sloth/model/Type;"⟩ : MethodName)) hown (mvT hZ (own_w hw 2 rfl)) (mvT hZ (own_w hw 3 rfl)) (mvT hZ (own_w hw 4 rfl)) (mvT hZ (own_w hw 5 rfl)) (by decide) (backOf (W := 0) (rm1_0 l Z a0 hw [] cx  h56 n0 O59 ) hZ (own_w hw 5 rfl) (own_w hw 4 rfl) (by decide) (by decide)) (g := (mkF m 70 #[.val (.int p1), .val (.int p2), .val (.int (0 : Int32)), .val (.int (1 : Int32)), .val (.ref b2), .val (.int (0 : Int32))] [(.int (0 : Int32))])) rfl (by rw [hml]; rfl) (argsL := [(.int (0 : Int32))]) (rest := []) (lenOf pd_0 rfl) rfl (by show 2 * 0 + _ ≤ _; exact Nat.le_of_eq rfl) (hb hby at_70) (fun _ _ => ⟨rfl, e56, (by decide : 1 + 0 ≤ _), (by decide : 9 + 0 ≤ _)⟩)
      dsimp only [Pt.U, Pt.locs, Pt.cells, Pt.slots] at X82 l82 y82 z82 st82 hQ82
      subst l82 y82 z82
      obtain ⟨rfl, Nq82, eq82⟩ := hQ82
      have N83 := Fr.app N58 Nq82
      have q84 := fun t (kt : Go p e below T82 (mkF m 73 #[.val (.int p1), .val (.int p2), .val (.int (0 : Int32)), .val (.int (1 : Int32)), .val (.ref b2), .val (.int (0 : Int32))] [(.ref w_BOOL)]) t) => q81 t (st82 t kt)
      have q85 := fun t (kt : Go p e below T82 (mkF m 74 #[.val (.int p1), .val (.int p2), .val (.int (0 : Int32)), .val (.int (1 : Int32)), .val (.ref b2), .val (.int (0 : Int32))] [(.int (1 : Int32)), (.ref w_BOOL)]) t) => q84 t (by
        show Go p e below T82 (mkF m 73 #[.val (.int p1), .val (.int p2), .val (.int (0 : Int32)), .val (.int (1 : Int32)), .val (.ref b2), .val (.int (0 : Int32))] [(.ref w_BOOL)]) _
        refine XS.iloadN X82.here hx rfl (hb hby at_73) rfl ?_
        exact kt)
      obtain ⟨_, _, ⟨T86, L86, k86, n86⟩, -, X86, ⟨Lc86, hQ86, l86, y86, z86⟩, st86⟩ := Jvm.LawKit.callS X82 hx (y := (⟨"com/example/sloth/sloth/model/TypeAcceptsPinLaw", "pick", "(I)Lcom/example/sloth/sloth/model/Type;"⟩ : MethodName)) hown (mvT hZ (own_w hw 2 rfl)) (mvT hZ (own_w hw 3 rfl)) (mvT hZ (own_w hw 4 rfl)) (mvT hZ (own_w hw 5 rfl)) (by decide) (backOf (W := 1) (rm1_1 l Z a0 hw [] cx  h56 n0 O59 ) hZ (own_w hw 5 rfl) (own_w hw 4 rfl) (by decide) (by decide)) (g := (mkF m 74 #[.val (.int p1), .val (.int p2), .val (.int (0 : Int32)), .val (.int (1 : Int32)), .val (.ref b2), .val (.int (0 : Int32))] [(.int (1 : Int32)), (.ref w_BOOL)])) rfl (by rw [hml]; rfl) (argsL := [(.int (1 : Int32))]) (rest := [(.ref w_BOOL)]) (lenOf pd_0 rfl) rfl (by show 2 * 0 + _ ≤ _; exact Nat.le_of_eq rfl) (hb hby at_74) (fun _ _ => ⟨rfl, eq82, (by decide : 1 + 0 ≤ _), (by decide : 9 + 0 ≤ _)⟩)
      dsimp only [Pt.U, Pt.locs, Pt.cells, Pt.slots] at X86 l86 y86 z86 st86 hQ86
      subst l86 y86 z86
      obtain ⟨rfl, Nq86, eq86⟩ := hQ86
      have N87 := Fr.app N83 Nq86
      have q88 := fun t (kt : Go p e below T86 (mkF m 77 #[.val (.int p1), .val (.int p2), .val (.int (0 : Int32)), .val (.int (1 : Int32)), .val (.ref b2), .val (.int (0 : Int32))] [(.ref w_INT), (.ref w_BOOL)]) t) => q85 t (st86 t kt)
      obtain ⟨cq90, kq90, q90a, q90b, q90c⟩ := isOf hZ eq86 (cx.2.1.ext O59.2)
      obtain ⟨_, _, ⟨T89, L89, k89, n89⟩, -, X89, ⟨Lc89, hQ89, l89, y89, z89⟩, st89⟩ := X86.virtualBack hx (y := (⟨"com/example/sloth/sloth/model/Type", "accepts", "(Lcom/example/sloth/sloth/model/Type;)Z"⟩ : MethodName)) (z := (⟨"com/example/sloth/sloth/model/Type", "accepts", "(Lcom/example/sloth/sloth/model/Type;)Z"⟩ : MethodName)) hown (mvT hZ (own_w hw 9 rfl)) (mvT hZ (own_w hw 10 rfl)) (notFace_of_selects (args := #[]) (mvT hZ (own_w hw 12 rfl))) (mvT hZ (own_w hw 12 rfl)) (mvT hZ (own_w hw 11 rfl)) (by decide) (backOf (W := 0) (rm2_0_1 l Z a0 hw [] cx  h56 n0 O59 ) hZ (own_w hw 13 rfl) (own_w hw 7 rfl) (by decide) (by decide)) q90a q90c (g := (mkF m 77 #[.val (.int p1), .val (.int p2), .val (.int (0 : Int32)), .val (.int (1 : Int32)), .val (.ref b2), .val (.int (0 : Int32))] [(.ref w_INT), (.ref w_BOOL)])) rfl (by rw [hml]; rfl) (Steps.refl _) (argsL := [(.ref w_INT)]) (rest := []) (lenOf pd_1 rfl) rfl (by show 2 * 0 + _ ≤ _; exact Nat.le_of_eq rfl) (hb hby at_77) (fun _ _ => ⟨rfl, eq86, (by decide : 1 + 0 ≤ _), (by decide : 9 + 0 ≤ _)⟩)
      dsimp only [Pt.U, Pt.locs, Pt.cells, Pt.slots] at X89 l89 y89 z89 st89 hQ89
      subst l89 y89 z89
      obtain ⟨rfl, Nq89, eq89⟩ := hQ89
      have N91 := Fr.app N87 Nq89
      have q92 := fun t (kt : Go p e below T89 (mkF m 80 #[.val (.int p1), .val (.int p2), .val (.int (0 : Int32)), .val (.int (1 : Int32)), .val (.ref b2), .val (.int (0 : Int32))] [(.int (0 : Int32))]) t) => q88 t (st89.trans kt)
      have q93 := fun t (kt : Go p e below T89 (mkF m 90 #[.val (.int p1), .val (.int p2), .val (.int (0 : Int32)), .val (.int (1 : Int32)), .val (.ref b2), .val (.int (0 : Int32))] [(.int (1 : Int32))]) t) => q92 t (by
        show Go p e below T89 (mkF m 80 #[.val (.int p1), .val (.int p2), .val (.int (0 : Int32)), .val (.int (1 : Int32)), .val (.ref b2), .val (.int (0 : Int32))] [(.int (0 : Int32))]) _
        refine XS.iload X89.here hx rfl (hb hby at_80) rfl ?_
        show Go p e below T89 (mkF m 82 #[.val (.int p1), .val (.int p2), .val (.int (0 : Int32)), .val (.int (1 : Int32)), .val (.ref b2), .val (.int (0 : Int32))] [(.int (0 : Int32)), (.int (0 : Int32))]) _
        refine XS.icmpNo X89.here hx rfl (hb hby at_82) rfl (teq (rfl : (0 : Int32) = (0 : Int32))).2 ?_
        show Go p e below T89 (mkF m 85 #[.val (.int p1), .val (.int p2), .val (.int (0 : Int32)), .val (.int (1 : Int32)), .val (.ref b2), .val (.int (0 : Int32))] []) _
        refine XS.iconst X89.here hx rfl (hb hby at_85) ?_
        show Go p e below T89 (mkF m 86 #[.val (.int p1), .val (.int p2), .val (.int (0 : Int32)), .val (.int (1 : Int32)), .val (.ref b2), .val (.int (0 : Int32))] [(.int (1 : Int32))]) _
        refine XS.goto X89.here hx rfl (pc0 := 86) (pc' := 90) rfl (hb hby at_86) (by decide) (by decide) ?_
        exact kt)
      exact ⟨some (.int (1 : Int32)), T89, _, _, _, _, X89, by decide, by decide, nofun, q93, fun fs hr => retN X89 hx (t := .boolean) hret (by simp) (hb hby at_90) hr, by rw [eq89]; exact ⟨rfl, N91⟩⟩
    · skip
      have q94 := fun t (kt : Go p e below T56 (mkF m 59 #[.val (.int p1), .val (.int p2), .val (.int (0 : Int32)), .val (.int (2 : Int32)), .val (.ref b2), .unset] []) t) => q61 t (by rw [hj]; exact kt)
      have q96 := fun t (kt : Go p e below T56 (mkF m 66 #[.val (.int p1), .val (.int p2), .val (.int (0 : Int32)), .val (.int (2 : Int32)), .val (.ref b2), .unset] [(.int (2 : Int32)), (.ref b2)]) t) => q94 t (by
        show Go p e below T56 (mkF m 59 #[.val (.int p1), .val (.int p2), .val (.int (0 : Int32)), .val (.int (2 : Int32)), .val (.ref b2), .unset] []) _
        refine XS.aload X56.here hx rfl (hb hby at_59) rfl rfl ?_
        show Go p e below T56 (mkF m 61 #[.val (.int p1), .val (.int p2), .val (.int (0 : Int32)), .val (.int (2 : Int32)), .val (.ref b2), .unset] [(.ref b2)]) _
        refine XS.iloadN X56.here hx rfl (hb hby at_61) rfl ?_
        show Go p e below T56 (mkF m 62 #[.val (.int p1), .val (.int p2), .val (.int (0 : Int32)), .val (.int (2 : Int32)), .val (.ref b2), .unset] [(.int (0 : Int32)), (.ref b2)]) _
        refine XS.iconst X56.here hx rfl (hb hby at_62) ?_
        show Go p e below T56 (mkF m 63 #[.val (.int p1), .val (.int p2), .val (.int (0 : Int32)), .val (.int (2 : Int32)), .val (.ref b2), .unset] [(.int (3 : Int32)), (.int (0 : Int32)), (.ref b2)]) _
        refine XS.imul X56.here hx rfl (hb hby at_63) rfl ?_
        show Go p e below T56 (mkF m 64 #[.val (.int p1), .val (.int p2), .val (.int (0 : Int32)), .val (.int (2 : Int32)), .val (.ref b2), .unset] [(.int (0 : Int32)), (.ref b2)]) _
        refine XS.iloadN X56.here hx rfl (hb hby at_64) rfl ?_
        show Go p e below T56 (mkF m 65 #[.val (.int p1), .val (.int p2), .val (.int (0 : Int32)), .val (.int (2 : Int32)), .val (.ref b2), .unset] [(.int (2 : Int32)), (.int (0 : Int32)), (.ref b2)]) _
        refine XS.iadd X56.here hx rfl (hb hby at_65) rfl ?_
        exact kt)
      obtain ⟨c95, Ar95, -, S95, N95, H95, -⟩ := V56
      have q97 := fun t (kt : Go p e below T56 (mkF m 70 #[.val (.int p1), .val (.int p2), .val (.int (0 : Int32)), .val (.int (2 : Int32)), .val (.ref b2), .val (.int (0 : Int32))] [(.int (0 : Int32))]) t) => q96 t (by
        show Go p e below T56 (mkF m 66 #[.val (.int p1), .val (.int p2), .val (.int (0 : Int32)), .val (.int (2 : Int32)), .val (.ref b2), .unset] [(.int (2 : Int32)), (.ref b2)]) _
        refine X56.baloadBooleans hx (j := (2 : Int32)) (v := (.int (0 : Int32))) (by rw [e56]; exact Ar95.1) (State.isArrayOf_alike hZ.alike Ar95.2.1) Ar95.2.2 (inb_of S95 ⟨by decide, by decide⟩) (Has.at H95 (inb_of S95 ⟨by decide, by decide⟩) rfl) (g := (mkF m 66 #[.val (.int p1), .val (.int p2), .val (.int (0 : Int32)), .val (.int (2 : Int32)), .val (.ref b2), .unset] [(.int (2 : Int32)), (.ref b2)])) rfl rfl (hb hby at_66) _ ?_
        show Go p e below T56 (mkF m 67 #[.val (.int p1), .val (.int p2), .val (.int (0 : Int32)), .val (.int (2 : Int32)), .val (.ref b2), .unset] [(.int (0 : Int32))]) _
        refine XS.istore X56.here hx rfl (hb hby at_67) rfl (l' := #[.val (.int p1), .val (.int p2), .val (.int (0 : Int32)), .val (.int (2 : Int32)), .val (.ref b2), .val (.int (0 : Int32))]) rfl ?_
        show Go p e below T56 (mkF m 69 #[.val (.int p1), .val (.int p2), .val (.int (0 : Int32)), .val (.int (2 : Int32)), .val (.ref b2), .val (.int (0 : Int32))] []) _
        refine XS.iloadN X56.here hx rfl (hb hby at_69) rfl ?_
        exact kt)
      obtain ⟨_, _, ⟨T98, L98, k98, n98⟩, -, X98, ⟨Lc98, hQ98, l98, y98, z98⟩, st98⟩ := Jvm.LawKit.callS X56 hx (y := (⟨"com/example/sloth/sloth/model/TypeAcceptsPinLaw", "pick", "(I)Lcom/example/sloth/sloth/model/Type;"⟩ : MethodName)) hown (mvT hZ (own_w hw 2 rfl)) (mvT hZ (own_w hw 3 rfl)) (mvT hZ (own_w hw 4 rfl)) (mvT hZ (own_w hw 5 rfl)) (by decide) (backOf (W := 0) (rm1_0 l Z a0 hw [] cx  h56 n0 O59 ) hZ (own_w hw 5 rfl) (own_w hw 4 rfl) (by decide) (by decide)) (g := (mkF m 70 #[.val (.int p1), .val (.int p2), .val (.int (0 : Int32)), .val (.int (2 : Int32)), .val (.ref b2), .val (.int (0 : Int32))] [(.int (0 : Int32))])) rfl (by rw [hml]; rfl) (argsL := [(.int (0 : Int32))]) (rest := []) (lenOf pd_0 rfl) rfl (by show 2 * 0 + _ ≤ _; exact Nat.le_of_eq rfl) (hb hby at_70) (fun _ _ => ⟨rfl, e56, (by decide : 1 + 0 ≤ _), (by decide : 9 + 0 ≤ _)⟩)
      dsimp only [Pt.U, Pt.locs, Pt.cells, Pt.slots] at X98 l98 y98 z98 st98 hQ98
      subst l98 y98 z98
      obtain ⟨rfl, Nq98, eq98⟩ := hQ98
      have N99 := Fr.app N58 Nq98
      have q100 := fun t (kt : Go p e below T98 (mkF m 73 #[.val (.int p1), .val (.int p2), .val (.int (0 : Int32)), .val (.int (2 : Int32)), .val (.ref b2), .val (.int (0 : Int32))] [(.ref w_BOOL)]) t) => q97 t (st98 t kt)
      have q101 := fun t (kt : Go p e below T98 (mkF m 74 #[.val (.int p1), .val (.int p2), .val (.int (0 : Int32)), .val (.int (2 : Int32)), .val (.ref b2), .val (.int (0 : Int32))] [(.int (2 : Int32)), (.ref w_BOOL)]) t) => q100 t (by
        show Go p e below T98 (mkF m 73 #[.val (.int p1), .val (.int p2), .val (.int (0 : Int32)), .val (.int (2 : Int32)), .val (.ref b2), .val (.int (0 : Int32))] [(.ref w_BOOL)]) _
        refine XS.iloadN X98.here hx rfl (hb hby at_73) rfl ?_
        exact kt)
      obtain ⟨_, _, ⟨T102, L102, k102, n102⟩, -, X102, ⟨Lc102, hQ102, l102, y102, z102⟩, st102⟩ := Jvm.LawKit.callS X98 hx (y := (⟨"com/example/sloth/sloth/model/TypeAcceptsPinLaw", "pick", "(I)Lcom/example/sloth/sloth/model/Type;"⟩ : MethodName)) hown (mvT hZ (own_w hw 2 rfl)) (mvT hZ (own_w hw 3 rfl)) (mvT hZ (own_w hw 4 rfl)) (mvT hZ (own_w hw 5 rfl)) (by decide) (backOf (W := 1) (rm1_2 l Z a0 hw [] cx  h56 n0 O59 ) hZ (own_w hw 5 rfl) (own_w hw 4 rfl) (by decide) (by decide)) (g := (mkF m 74 #[.val (.int p1), .val (.int p2), .val (.int (0 : Int32)), .val (.int (2 : Int32)), .val (.ref b2), .val (.int (0 : Int32))] [(.int (2 : Int32)), (.ref w_BOOL)])) rfl (by rw [hml]; rfl) (argsL := [(.int (2 : Int32))]) (rest := [(.ref w_BOOL)]) (lenOf pd_0 rfl) rfl (by show 2 * 0 + _ ≤ _; exact Nat.le_of_eq rfl) (hb hby at_74) (fun _ _ => ⟨rfl, eq98, (by decide : 1 + 0 ≤ _), (by decide : 9 + 0 ≤ _)⟩)
      dsimp only [Pt.U, Pt.locs, Pt.cells, Pt.slots] at X102 l102 y102 z102 st102 hQ102
      subst l102 y102 z102
      obtain ⟨rfl, Nq102, eq102⟩ := hQ102
      have N103 := Fr.app N99 Nq102
      have q104 := fun t (kt : Go p e below T102 (mkF m 77 #[.val (.int p1), .val (.int p2), .val (.int (0 : Int32)), .val (.int (2 : Int32)), .val (.ref b2), .val (.int (0 : Int32))] [(.ref w_REAL), (.ref w_BOOL)]) t) => q101 t (st102 t kt)
      obtain ⟨cq106, kq106, q106a, q106b, q106c⟩ := isOf hZ eq102 (cx.2.1.ext O59.2)
      obtain ⟨_, _, ⟨T105, L105, k105, n105⟩, -, X105, ⟨Lc105, hQ105, l105, y105, z105⟩, st105⟩ := X102.virtualBack hx (y := (⟨"com/example/sloth/sloth/model/Type", "accepts", "(Lcom/example/sloth/sloth/model/Type;)Z"⟩ : MethodName)) (z := (⟨"com/example/sloth/sloth/model/Type", "accepts", "(Lcom/example/sloth/sloth/model/Type;)Z"⟩ : MethodName)) hown (mvT hZ (own_w hw 9 rfl)) (mvT hZ (own_w hw 10 rfl)) (notFace_of_selects (args := #[]) (mvT hZ (own_w hw 12 rfl))) (mvT hZ (own_w hw 12 rfl)) (mvT hZ (own_w hw 11 rfl)) (by decide) (backOf (W := 0) (rm2_0_2 l Z a0 hw [] cx  h56 n0 O59 ) hZ (own_w hw 13 rfl) (own_w hw 7 rfl) (by decide) (by decide)) q106a q106c (g := (mkF m 77 #[.val (.int p1), .val (.int p2), .val (.int (0 : Int32)), .val (.int (2 : Int32)), .val (.ref b2), .val (.int (0 : Int32))] [(.ref w_REAL), (.ref w_BOOL)])) rfl (by rw [hml]; rfl) (Steps.refl _) (argsL := [(.ref w_REAL)]) (rest := []) (lenOf pd_1 rfl) rfl (by show 2 * 0 + _ ≤ _; exact Nat.le_of_eq rfl) (hb hby at_77) (fun _ _ => ⟨rfl, eq102, (by decide : 1 + 0 ≤ _), (by decide : 9 + 0 ≤ _)⟩)
      dsimp only [Pt.U, Pt.locs, Pt.cells, Pt.slots] at X105 l105 y105 z105 st105 hQ105
      subst l105 y105 z105
      obtain ⟨rfl, Nq105, eq105⟩ := hQ105
      have N107 := Fr.app N103 Nq105
      have q108 := fun t (kt : Go p e below T105 (mkF m 80 #[.val (.int p1), .val (.int p2), .val (.int (0 : Int32)), .val (.int (2 : Int32)), .val (.ref b2), .val (.int (0 : Int32))] [(.int (0 : Int32))]) t) => q104 t (st105.trans kt)
      have q109 := fun t (kt : Go p e below T105 (mkF m 90 #[.val (.int p1), .val (.int p2), .val (.int (0 : Int32)), .val (.int (2 : Int32)), .val (.ref b2), .val (.int (0 : Int32))] [(.int (1 : Int32))]) t) => q108 t (by
        show Go p e below T105 (mkF m 80 #[.val (.int p1), .val (.int p2), .val (.int (0 : Int32)), .val (.int (2 : Int32)), .val (.ref b2), .val (.int (0 : Int32))] [(.int (0 : Int32))]) _
        refine XS.iload X105.here hx rfl (hb hby at_80) rfl ?_
        show Go p e below T105 (mkF m 82 #[.val (.int p1), .val (.int p2), .val (.int (0 : Int32)), .val (.int (2 : Int32)), .val (.ref b2), .val (.int (0 : Int32))] [(.int (0 : Int32)), (.int (0 : Int32))]) _
        refine XS.icmpNo X105.here hx rfl (hb hby at_82) rfl (teq (rfl : (0 : Int32) = (0 : Int32))).2 ?_
        show Go p e below T105 (mkF m 85 #[.val (.int p1), .val (.int p2), .val (.int (0 : Int32)), .val (.int (2 : Int32)), .val (.ref b2), .val (.int (0 : Int32))] []) _
        refine XS.iconst X105.here hx rfl (hb hby at_85) ?_
        show Go p e below T105 (mkF m 86 #[.val (.int p1), .val (.int p2), .val (.int (0 : Int32)), .val (.int (2 : Int32)), .val (.ref b2), .val (.int (0 : Int32))] [(.int (1 : Int32))]) _
        refine XS.goto X105.here hx rfl (pc0 := 86) (pc' := 90) rfl (hb hby at_86) (by decide) (by decide) ?_
        exact kt)
      exact ⟨some (.int (1 : Int32)), T105, _, _, _, _, X105, by decide, by decide, nofun, q109, fun fs hr => retN X105 hx (t := .boolean) hret (by simp) (hb hby at_90) hr, by rw [eq105]; exact ⟨rfl, N107⟩⟩
  · skip
    have q110 := fun t (kt : Go p e below T56 (mkF m 59 #[.val (.int p1), .val (.int p2), .val (.int (1 : Int32)), .val (.int ((p2 &&& (2147483647 : Int32)) % (3 : Int32))), .val (.ref b2), .unset] []) t) => q60 t (by rw [hi]; exact kt)
    rcases own_mod3 p2 with hj | hj | hj
    · skip
      have q111 := fun t (kt : Go p e below T56 (mkF m 59 #[.val (.int p1), .val (.int p2), .val (.int (1 : Int32)), .val (.int (0 : Int32)), .val (.ref b2), .unset] []) t) => q110 t (by rw [hj]; exact kt)
      have q113 := fun t (kt : Go p e below T56 (mkF m 66 #[.val (.int p1), .val (.int p2), .val (.int (1 : Int32)), .val (.int (0 : Int32)), .val (.ref b2), .unset] [(.int (3 : Int32)), (.ref b2)]) t) => q111 t (by
        show Go p e below T56 (mkF m 59 #[.val (.int p1), .val (.int p2), .val (.int (1 : Int32)), .val (.int (0 : Int32)), .val (.ref b2), .unset] []) _
        refine XS.aload X56.here hx rfl (hb hby at_59) rfl rfl ?_
        show Go p e below T56 (mkF m 61 #[.val (.int p1), .val (.int p2), .val (.int (1 : Int32)), .val (.int (0 : Int32)), .val (.ref b2), .unset] [(.ref b2)]) _
        refine XS.iloadN X56.here hx rfl (hb hby at_61) rfl ?_
        show Go p e below T56 (mkF m 62 #[.val (.int p1), .val (.int p2), .val (.int (1 : Int32)), .val (.int (0 : Int32)), .val (.ref b2), .unset] [(.int (1 : Int32)), (.ref b2)]) _
        refine XS.iconst X56.here hx rfl (hb hby at_62) ?_
        show Go p e below T56 (mkF m 63 #[.val (.int p1), .val (.int p2), .val (.int (1 : Int32)), .val (.int (0 : Int32)), .val (.ref b2), .unset] [(.int (3 : Int32)), (.int (1 : Int32)), (.ref b2)]) _
        refine XS.imul X56.here hx rfl (hb hby at_63) rfl ?_
        show Go p e below T56 (mkF m 64 #[.val (.int p1), .val (.int p2), .val (.int (1 : Int32)), .val (.int (0 : Int32)), .val (.ref b2), .unset] [(.int (3 : Int32)), (.ref b2)]) _
        refine XS.iloadN X56.here hx rfl (hb hby at_64) rfl ?_
        show Go p e below T56 (mkF m 65 #[.val (.int p1), .val (.int p2), .val (.int (1 : Int32)), .val (.int (0 : Int32)), .val (.ref b2), .unset] [(.int (0 : Int32)), (.int (3 : Int32)), (.ref b2)]) _
        refine XS.iadd X56.here hx rfl (hb hby at_65) rfl ?_
        exact kt)
      obtain ⟨c112, Ar112, -, S112, N112, H112, -⟩ := V56
      have q114 := fun t (kt : Go p e below T56 (mkF m 70 #[.val (.int p1), .val (.int p2), .val (.int (1 : Int32)), .val (.int (0 : Int32)), .val (.ref b2), .val (.int (0 : Int32))] [(.int (1 : Int32))]) t) => q113 t (by
        show Go p e below T56 (mkF m 66 #[.val (.int p1), .val (.int p2), .val (.int (1 : Int32)), .val (.int (0 : Int32)), .val (.ref b2), .unset] [(.int (3 : Int32)), (.ref b2)]) _
        refine X56.baloadBooleans hx (j := (3 : Int32)) (v := (.int (0 : Int32))) (by rw [e56]; exact Ar112.1) (State.isArrayOf_alike hZ.alike Ar112.2.1) Ar112.2.2 (inb_of S112 ⟨by decide, by decide⟩) (Has.at H112 (inb_of S112 ⟨by decide, by decide⟩) rfl) (g := (mkF m 66 #[.val (.int p1), .val (.int p2), .val (.int (1 : Int32)), .val (.int (0 : Int32)), .val (.ref b2), .unset] [(.int (3 : Int32)), (.ref b2)])) rfl rfl (hb hby at_66) _ ?_
        show Go p e below T56 (mkF m 67 #[.val (.int p1), .val (.int p2), .val (.int (1 : Int32)), .val (.int (0 : Int32)), .val (.ref b2), .unset] [(.int (0 : Int32))]) _
        refine XS.istore X56.here hx rfl (hb hby at_67) rfl (l' := #[.val (.int p1), .val (.int p2), .val (.int (1 : Int32)), .val (.int (0 : Int32)), .val (.ref b2), .val (.int (0 : Int32))]) rfl ?_
        show Go p e below T56 (mkF m 69 #[.val (.int p1), .val (.int p2), .val (.int (1 : Int32)), .val (.int (0 : Int32)), .val (.ref b2), .val (.int (0 : Int32))] []) _
        refine XS.iloadN X56.here hx rfl (hb hby at_69) rfl ?_
        exact kt)
      obtain ⟨_, _, ⟨T115, L115, k115, n115⟩, -, X115, ⟨Lc115, hQ115, l115, y115, z115⟩, st115⟩ := Jvm.LawKit.callS X56 hx (y := (⟨"com/example/sloth/sloth/model/TypeAcceptsPinLaw", "pick", "(I)Lcom/example/sloth/sloth/model/Type;"⟩ : MethodName)) hown (mvT hZ (own_w hw 2 rfl)) (mvT hZ (own_w hw 3 rfl)) (mvT hZ (own_w hw 4 rfl)) (mvT hZ (own_w hw 5 rfl)) (by decide) (backOf (W := 0) (rm1_1 l Z a0 hw [] cx  h56 n0 O59 ) hZ (own_w hw 5 rfl) (own_w hw 4 rfl) (by decide) (by decide)) (g := (mkF m 70 #[.val (.int p1), .val (.int p2), .val (.int (1 : Int32)), .val (.int (0 : Int32)), .val (.ref b2), .val (.int (0 : Int32))] [(.int (1 : Int32))])) rfl (by rw [hml]; rfl) (argsL := [(.int (1 : Int32))]) (rest := []) (lenOf pd_0 rfl) rfl (by show 2 * 0 + _ ≤ _; exact Nat.le_of_eq rfl) (hb hby at_70) (fun _ _ => ⟨rfl, e56, (by decide : 1 + 0 ≤ _), (by decide : 9 + 0 ≤ _)⟩)
      dsimp only [Pt.U, Pt.locs, Pt.cells, Pt.slots] at X115 l115 y115 z115 st115 hQ115
      subst l115 y115 z115
      obtain ⟨rfl, Nq115, eq115⟩ := hQ115
      have N116 := Fr.app N58 Nq115
      have q117 := fun t (kt : Go p e below T115 (mkF m 73 #[.val (.int p1), .val (.int p2), .val (.int (1 : Int32)), .val (.int (0 : Int32)), .val (.ref b2), .val (.int (0 : Int32))] [(.ref w_INT)]) t) => q114 t (st115 t kt)
      have q118 := fun t (kt : Go p e below T115 (mkF m 74 #[.val (.int p1), .val (.int p2), .val (.int (1 : Int32)), .val (.int (0 : Int32)), .val (.ref b2), .val (.int (0 : Int32))] [(.int (0 : Int32)), (.ref w_INT)]) t) => q117 t (by
        show Go p e below T115 (mkF m 73 #[.val (.int p1), .val (.int p2), .val (.int (1 : Int32)), .val (.int (0 : Int32)), .val (.ref b2), .val (.int (0 : Int32))] [(.ref w_INT)]) _
        refine XS.iloadN X115.here hx rfl (hb hby at_73) rfl ?_
        exact kt)
      obtain ⟨_, _, ⟨T119, L119, k119, n119⟩, -, X119, ⟨Lc119, hQ119, l119, y119, z119⟩, st119⟩ := Jvm.LawKit.callS X115 hx (y := (⟨"com/example/sloth/sloth/model/TypeAcceptsPinLaw", "pick", "(I)Lcom/example/sloth/sloth/model/Type;"⟩ : MethodName)) hown (mvT hZ (own_w hw 2 rfl)) (mvT hZ (own_w hw 3 rfl)) (mvT hZ (own_w hw 4 rfl)) (mvT hZ (own_w hw 5 rfl)) (by decide) (backOf (W := 1) (rm1_0 l Z a0 hw [] cx  h56 n0 O59 ) hZ (own_w hw 5 rfl) (own_w hw 4 rfl) (by decide) (by decide)) (g := (mkF m 74 #[.val (.int p1), .val (.int p2), .val (.int (1 : Int32)), .val (.int (0 : Int32)), .val (.ref b2), .val (.int (0 : Int32))] [(.int (0 : Int32)), (.ref w_INT)])) rfl (by rw [hml]; rfl) (argsL := [(.int (0 : Int32))]) (rest := [(.ref w_INT)]) (lenOf pd_0 rfl) rfl (by show 2 * 0 + _ ≤ _; exact Nat.le_of_eq rfl) (hb hby at_74) (fun _ _ => ⟨rfl, eq115, (by decide : 1 + 0 ≤ _), (by decide : 9 + 0 ≤ _)⟩)
      dsimp only [Pt.U, Pt.locs, Pt.cells, Pt.slots] at X119 l119 y119 z119 st119 hQ119
      subst l119 y119 z119
      obtain ⟨rfl, Nq119, eq119⟩ := hQ119
      have N120 := Fr.app N116 Nq119
      have q121 := fun t (kt : Go p e below T119 (mkF m 77 #[.val (.int p1), .val (.int p2), .val (.int (1 : Int32)), .val (.int (0 : Int32)), .val (.ref b2), .val (.int (0 : Int32))] [(.ref w_BOOL), (.ref w_INT)]) t) => q118 t (st119 t kt)
      obtain ⟨cq123, kq123, q123a, q123b, q123c⟩ := isOf hZ eq119 (cx.2.2.2.2.2.1.ext O59.2)
      obtain ⟨_, _, ⟨T122, L122, k122, n122⟩, -, X122, ⟨Lc122, hQ122, l122, y122, z122⟩, st122⟩ := X119.virtualBack hx (y := (⟨"com/example/sloth/sloth/model/Type", "accepts", "(Lcom/example/sloth/sloth/model/Type;)Z"⟩ : MethodName)) (z := (⟨"com/example/sloth/sloth/model/Type", "accepts", "(Lcom/example/sloth/sloth/model/Type;)Z"⟩ : MethodName)) hown (mvT hZ (own_w hw 9 rfl)) (mvT hZ (own_w hw 10 rfl)) (notFace_of_selects (args := #[]) (mvT hZ (own_w hw 12 rfl))) (mvT hZ (own_w hw 12 rfl)) (mvT hZ (own_w hw 11 rfl)) (by decide) (backOf (W := 0) (rm2_1_0 l Z a0 hw [] cx  h56 n0 O59 ) hZ (own_w hw 13 rfl) (own_w hw 7 rfl) (by decide) (by decide)) q123a q123c (g := (mkF m 77 #[.val (.int p1), .val (.int p2), .val (.int (1 : Int32)), .val (.int (0 : Int32)), .val (.ref b2), .val (.int (0 : Int32))] [(.ref w_BOOL), (.ref w_INT)])) rfl (by rw [hml]; rfl) (Steps.refl _) (argsL := [(.ref w_BOOL)]) (rest := []) (lenOf pd_1 rfl) rfl (by show 2 * 0 + _ ≤ _; exact Nat.le_of_eq rfl) (hb hby at_77) (fun _ _ => ⟨rfl, eq119, (by decide : 1 + 0 ≤ _), (by decide : 9 + 0 ≤ _)⟩)
      dsimp only [Pt.U, Pt.locs, Pt.cells, Pt.slots] at X122 l122 y122 z122 st122 hQ122
      subst l122 y122 z122
      obtain ⟨rfl, Nq122, eq122⟩ := hQ122
      have N124 := Fr.app N120 Nq122
      have q125 := fun t (kt : Go p e below T122 (mkF m 80 #[.val (.int p1), .val (.int p2), .val (.int (1 : Int32)), .val (.int (0 : Int32)), .val (.ref b2), .val (.int (0 : Int32))] [(.int (0 : Int32))]) t) => q121 t (st122.trans kt)
      have q126 := fun t (kt : Go p e below T122 (mkF m 90 #[.val (.int p1), .val (.int p2), .val (.int (1 : Int32)), .val (.int (0 : Int32)), .val (.ref b2), .val (.int (0 : Int32))] [(.int (1 : Int32))]) t) => q125 t (by
        show Go p e below T122 (mkF m 80 #[.val (.int p1), .val (.int p2), .val (.int (1 : Int32)), .val (.int (0 : Int32)), .val (.ref b2), .val (.int (0 : Int32))] [(.int (0 : Int32))]) _
        refine XS.iload X122.here hx rfl (hb hby at_80) rfl ?_
        show Go p e below T122 (mkF m 82 #[.val (.int p1), .val (.int p2), .val (.int (1 : Int32)), .val (.int (0 : Int32)), .val (.ref b2), .val (.int (0 : Int32))] [(.int (0 : Int32)), (.int (0 : Int32))]) _
        refine XS.icmpNo X122.here hx rfl (hb hby at_82) rfl (teq (rfl : (0 : Int32) = (0 : Int32))).2 ?_
        show Go p e below T122 (mkF m 85 #[.val (.int p1), .val (.int p2), .val (.int (1 : Int32)), .val (.int (0 : Int32)), .val (.ref b2), .val (.int (0 : Int32))] []) _
        refine XS.iconst X122.here hx rfl (hb hby at_85) ?_
        show Go p e below T122 (mkF m 86 #[.val (.int p1), .val (.int p2), .val (.int (1 : Int32)), .val (.int (0 : Int32)), .val (.ref b2), .val (.int (0 : Int32))] [(.int (1 : Int32))]) _
        refine XS.goto X122.here hx rfl (pc0 := 86) (pc' := 90) rfl (hb hby at_86) (by decide) (by decide) ?_
        exact kt)
      exact ⟨some (.int (1 : Int32)), T122, _, _, _, _, X122, by decide, by decide, nofun, q126, fun fs hr => retN X122 hx (t := .boolean) hret (by simp) (hb hby at_90) hr, by rw [eq122]; exact ⟨rfl, N124⟩⟩
    · skip
      have q127 := fun t (kt : Go p e below T56 (mkF m 59 #[.val (.int p1), .val (.int p2), .val (.int (1 : Int32)), .val (.int (1 : Int32)), .val (.ref b2), .unset] []) t) => q110 t (by rw [hj]; exact kt)
      have q129 := fun t (kt : Go p e below T56 (mkF m 66 #[.val (.int p1), .val (.int p2), .val (.int (1 : Int32)), .val (.int (1 : Int32)), .val (.ref b2), .unset] [(.int (4 : Int32)), (.ref b2)]) t) => q127 t (by
        show Go p e below T56 (mkF m 59 #[.val (.int p1), .val (.int p2), .val (.int (1 : Int32)), .val (.int (1 : Int32)), .val (.ref b2), .unset] []) _
        refine XS.aload X56.here hx rfl (hb hby at_59) rfl rfl ?_
        show Go p e below T56 (mkF m 61 #[.val (.int p1), .val (.int p2), .val (.int (1 : Int32)), .val (.int (1 : Int32)), .val (.ref b2), .unset] [(.ref b2)]) _
        refine XS.iloadN X56.here hx rfl (hb hby at_61) rfl ?_
        show Go p e below T56 (mkF m 62 #[.val (.int p1), .val (.int p2), .val (.int (1 : Int32)), .val (.int (1 : Int32)), .val (.ref b2), .unset] [(.int (1 : Int32)), (.ref b2)]) _
        refine XS.iconst X56.here hx rfl (hb hby at_62) ?_
        show Go p e below T56 (mkF m 63 #[.val (.int p1), .val (.int p2), .val (.int (1 : Int32)), .val (.int (1 : Int32)), .val (.ref b2), .unset] [(.int (3 : Int32)), (.int (1 : Int32)), (.ref b2)]) _
        refine XS.imul X56.here hx rfl (hb hby at_63) rfl ?_
        show Go p e below T56 (mkF m 64 #[.val (.int p1), .val (.int p2), .val (.int (1 : Int32)), .val (.int (1 : Int32)), .val (.ref b2), .unset] [(.int (3 : Int32)), (.ref b2)]) _
        refine XS.iloadN X56.here hx rfl (hb hby at_64) rfl ?_
        show Go p e below T56 (mkF m 65 #[.val (.int p1), .val (.int p2), .val (.int (1 : Int32)), .val (.int (1 : Int32)), .val (.ref b2), .unset] [(.int (1 : Int32)), (.int (3 : Int32)), (.ref b2)]) _
        refine XS.iadd X56.here hx rfl (hb hby at_65) rfl ?_
        exact kt)
      obtain ⟨c128, Ar128, -, S128, N128, H128, -⟩ := V56
      have q130 := fun t (kt : Go p e below T56 (mkF m 70 #[.val (.int p1), .val (.int p2), .val (.int (1 : Int32)), .val (.int (1 : Int32)), .val (.ref b2), .val (.int (1 : Int32))] [(.int (1 : Int32))]) t) => q129 t (by
        show Go p e below T56 (mkF m 66 #[.val (.int p1), .val (.int p2), .val (.int (1 : Int32)), .val (.int (1 : Int32)), .val (.ref b2), .unset] [(.int (4 : Int32)), (.ref b2)]) _
        refine X56.baloadBooleans hx (j := (4 : Int32)) (v := (.int (1 : Int32))) (by rw [e56]; exact Ar128.1) (State.isArrayOf_alike hZ.alike Ar128.2.1) Ar128.2.2 (inb_of S128 ⟨by decide, by decide⟩) (Has.at H128 (inb_of S128 ⟨by decide, by decide⟩) rfl) (g := (mkF m 66 #[.val (.int p1), .val (.int p2), .val (.int (1 : Int32)), .val (.int (1 : Int32)), .val (.ref b2), .unset] [(.int (4 : Int32)), (.ref b2)])) rfl rfl (hb hby at_66) _ ?_
        show Go p e below T56 (mkF m 67 #[.val (.int p1), .val (.int p2), .val (.int (1 : Int32)), .val (.int (1 : Int32)), .val (.ref b2), .unset] [(.int (1 : Int32))]) _
        refine XS.istore X56.here hx rfl (hb hby at_67) rfl (l' := #[.val (.int p1), .val (.int p2), .val (.int (1 : Int32)), .val (.int (1 : Int32)), .val (.ref b2), .val (.int (1 : Int32))]) rfl ?_
        show Go p e below T56 (mkF m 69 #[.val (.int p1), .val (.int p2), .val (.int (1 : Int32)), .val (.int (1 : Int32)), .val (.ref b2), .val (.int (1 : Int32))] []) _
        refine XS.iloadN X56.here hx rfl (hb hby at_69) rfl ?_
        exact kt)
      obtain ⟨_, _, ⟨T131, L131, k131, n131⟩, -, X131, ⟨Lc131, hQ131, l131, y131, z131⟩, st131⟩ := Jvm.LawKit.callS X56 hx (y := (⟨"com/example/sloth/sloth/model/TypeAcceptsPinLaw", "pick", "(I)Lcom/example/sloth/sloth/model/Type;"⟩ : MethodName)) hown (mvT hZ (own_w hw 2 rfl)) (mvT hZ (own_w hw 3 rfl)) (mvT hZ (own_w hw 4 rfl)) (mvT hZ (own_w hw 5 rfl)) (by decide) (backOf (W := 0) (rm1_1 l Z a0 hw [] cx  h56 n0 O59 ) hZ (own_w hw 5 rfl) (own_w hw 4 rfl) (by decide) (by decide)) (g := (mkF m 70 #[.val (.int p1), .val (.int p2), .val (.int (1 : Int32)), .val (.int (1 : Int32)), .val (.ref b2), .val (.int (1 : Int32))] [(.int (1 : Int32))])) rfl (by rw [hml]; rfl) (argsL := [(.int (1 : Int32))]) (rest := []) (lenOf pd_0 rfl) rfl (by show 2 * 0 + _ ≤ _; exact Nat.le_of_eq rfl) (hb hby at_70) (fun _ _ => ⟨rfl, e56, (by decide : 1 + 0 ≤ _), (by decide : 9 + 0 ≤ _)⟩)
      dsimp only [Pt.U, Pt.locs, Pt.cells, Pt.slots] at X131 l131 y131 z131 st131 hQ131
      subst l131 y131 z131
      obtain ⟨rfl, Nq131, eq131⟩ := hQ131
      have N132 := Fr.app N58 Nq131
      have q133 := fun t (kt : Go p e below T131 (mkF m 73 #[.val (.int p1), .val (.int p2), .val (.int (1 : Int32)), .val (.int (1 : Int32)), .val (.ref b2), .val (.int (1 : Int32))] [(.ref w_INT)]) t) => q130 t (st131 t kt)
      have q134 := fun t (kt : Go p e below T131 (mkF m 74 #[.val (.int p1), .val (.int p2), .val (.int (1 : Int32)), .val (.int (1 : Int32)), .val (.ref b2), .val (.int (1 : Int32))] [(.int (1 : Int32)), (.ref w_INT)]) t) => q133 t (by
        show Go p e below T131 (mkF m 73 #[.val (.int p1), .val (.int p2), .val (.int (1 : Int32)), .val (.int (1 : Int32)), .val (.ref b2), .val (.int (1 : Int32))] [(.ref w_INT)]) _
        refine XS.iloadN X131.here hx rfl (hb hby at_73) rfl ?_
        exact kt)
      obtain ⟨_, _, ⟨T135, L135, k135, n135⟩, -, X135, ⟨Lc135, hQ135, l135, y135, z135⟩, st135⟩ := Jvm.LawKit.callS X131 hx (y := (⟨"com/example/sloth/sloth/model/TypeAcceptsPinLaw", "pick", "(I)Lcom/example/sloth/sloth/model/Type;"⟩ : MethodName)) hown (mvT hZ (own_w hw 2 rfl)) (mvT hZ (own_w hw 3 rfl)) (mvT hZ (own_w hw 4 rfl)) (mvT hZ (own_w hw 5 rfl)) (by decide) (backOf (W := 1) (rm1_1 l Z a0 hw [] cx  h56 n0 O59 ) hZ (own_w hw 5 rfl) (own_w hw 4 rfl) (by decide) (by decide)) (g := (mkF m 74 #[.val (.int p1), .val (.int p2), .val (.int (1 : Int32)), .val (.int (1 : Int32)), .val (.ref b2), .val (.int (1 : Int32))] [(.int (1 : Int32)), (.ref w_INT)])) rfl (by rw [hml]; rfl) (argsL := [(.int (1 : Int32))]) (rest := [(.ref w_INT)]) (lenOf pd_0 rfl) rfl (by show 2 * 0 + _ ≤ _; exact Nat.le_of_eq rfl) (hb hby at_74) (fun _ _ => ⟨rfl, eq131, (by decide : 1 + 0 ≤ _), (by decide : 9 + 0 ≤ _)⟩)
      dsimp only [Pt.U, Pt.locs, Pt.cells, Pt.slots] at X135 l135 y135 z135 st135 hQ135
      subst l135 y135 z135
      obtain ⟨rfl, Nq135, eq135⟩ := hQ135
      have N136 := Fr.app N132 Nq135
      have q137 := fun t (kt : Go p e below T135 (mkF m 77 #[.val (.int p1), .val (.int p2), .val (.int (1 : Int32)), .val (.int (1 : Int32)), .val (.ref b2), .val (.int (1 : Int32))] [(.ref w_INT), (.ref w_INT)]) t) => q134 t (st135 t kt)
      obtain ⟨cq139, kq139, q139a, q139b, q139c⟩ := isOf hZ eq135 (cx.2.2.2.2.2.1.ext O59.2)
      obtain ⟨_, _, ⟨T138, L138, k138, n138⟩, -, X138, ⟨Lc138, hQ138, l138, y138, z138⟩, st138⟩ := X135.virtualBack hx (y := (⟨"com/example/sloth/sloth/model/Type", "accepts", "(Lcom/example/sloth/sloth/model/Type;)Z"⟩ : MethodName)) (z := (⟨"com/example/sloth/sloth/model/Type", "accepts", "(Lcom/example/sloth/sloth/model/Type;)Z"⟩ : MethodName)) hown (mvT hZ (own_w hw 9 rfl)) (mvT hZ (own_w hw 10 rfl)) (notFace_of_selects (args := #[]) (mvT hZ (own_w hw 12 rfl))) (mvT hZ (own_w hw 12 rfl)) (mvT hZ (own_w hw 11 rfl)) (by decide) (backOf (W := 0) (rm2_1_1 l Z a0 hw [] cx  h56 n0 O59 ) hZ (own_w hw 13 rfl) (own_w hw 7 rfl) (by decide) (by decide)) q139a q139c (g := (mkF m 77 #[.val (.int p1), .val (.int p2), .val (.int (1 : Int32)), .val (.int (1 : Int32)), .val (.ref b2), .val (.int (1 : Int32))] [(.ref w_INT), (.ref w_INT)])) rfl (by rw [hml]; rfl) (Steps.refl _) (argsL := [(.ref w_INT)]) (rest := []) (lenOf pd_1 rfl) rfl (by show 2 * 0 + _ ≤ _; exact Nat.le_of_eq rfl) (hb hby at_77) (fun _ _ => ⟨rfl, eq135, (by decide : 1 + 0 ≤ _), (by decide : 9 + 0 ≤ _)⟩)
      dsimp only [Pt.U, Pt.locs, Pt.cells, Pt.slots] at X138 l138 y138 z138 st138 hQ138
      subst l138 y138 z138
      obtain ⟨rfl, Nq138, eq138⟩ := hQ138
      have N140 := Fr.app N136 Nq138
      have q141 := fun t (kt : Go p e below T138 (mkF m 80 #[.val (.int p1), .val (.int p2), .val (.int (1 : Int32)), .val (.int (1 : Int32)), .val (.ref b2), .val (.int (1 : Int32))] [(.int (1 : Int32))]) t) => q137 t (st138.trans kt)
      have q142 := fun t (kt : Go p e below T138 (mkF m 90 #[.val (.int p1), .val (.int p2), .val (.int (1 : Int32)), .val (.int (1 : Int32)), .val (.ref b2), .val (.int (1 : Int32))] [(.int (1 : Int32))]) t) => q141 t (by
        show Go p e below T138 (mkF m 80 #[.val (.int p1), .val (.int p2), .val (.int (1 : Int32)), .val (.int (1 : Int32)), .val (.ref b2), .val (.int (1 : Int32))] [(.int (1 : Int32))]) _
        refine XS.iload X138.here hx rfl (hb hby at_80) rfl ?_
        show Go p e below T138 (mkF m 82 #[.val (.int p1), .val (.int p2), .val (.int (1 : Int32)), .val (.int (1 : Int32)), .val (.ref b2), .val (.int (1 : Int32))] [(.int (1 : Int32)), (.int (1 : Int32))]) _
        refine XS.icmpNo X138.here hx rfl (hb hby at_82) rfl (teq (rfl : (1 : Int32) = (1 : Int32))).2 ?_
        show Go p e below T138 (mkF m 85 #[.val (.int p1), .val (.int p2), .val (.int (1 : Int32)), .val (.int (1 : Int32)), .val (.ref b2), .val (.int (1 : Int32))] []) _
        refine XS.iconst X138.here hx rfl (hb hby at_85) ?_
        show Go p e below T138 (mkF m 86 #[.val (.int p1), .val (.int p2), .val (.int (1 : Int32)), .val (.int (1 : Int32)), .val (.ref b2), .val (.int (1 : Int32))] [(.int (1 : Int32))]) _
        refine XS.goto X138.here hx rfl (pc0 := 86) (pc' := 90) rfl (hb hby at_86) (by decide) (by decide) ?_
        exact kt)
      exact ⟨some (.int (1 : Int32)), T138, _, _, _, _, X138, by decide, by decide, nofun, q142, fun fs hr => retN X138 hx (t := .boolean) hret (by simp) (hb hby at_90) hr, by rw [eq138]; exact ⟨rfl, N140⟩⟩
    · skip
      have q143 := fun t (kt : Go p e below T56 (mkF m 59 #[.val (.int p1), .val (.int p2), .val (.int (1 : Int32)), .val (.int (2 : Int32)), .val (.ref b2), .unset] []) t) => q110 t (by rw [hj]; exact kt)
      have q145 := fun t (kt : Go p e below T56 (mkF m 66 #[.val (.int p1), .val (.int p2), .val (.int (1 : Int32)), .val (.int (2 : Int32)), .val (.ref b2), .unset] [(.int (5 : Int32)), (.ref b2)]) t) => q143 t (by
        show Go p e below T56 (mkF m 59 #[.val (.int p1), .val (.int p2), .val (.int (1 : Int32)), .val (.int (2 : Int32)), .val (.ref b2), .unset] []) _
        refine XS.aload X56.here hx rfl (hb hby at_59) rfl rfl ?_
        show Go p e below T56 (mkF m 61 #[.val (.int p1), .val (.int p2), .val (.int (1 : Int32)), .val (.int (2 : Int32)), .val (.ref b2), .unset] [(.ref b2)]) _
        refine XS.iloadN X56.here hx rfl (hb hby at_61) rfl ?_
        show Go p e below T56 (mkF m 62 #[.val (.int p1), .val (.int p2), .val (.int (1 : Int32)), .val (.int (2 : Int32)), .val (.ref b2), .unset] [(.int (1 : Int32)), (.ref b2)]) _
        refine XS.iconst X56.here hx rfl (hb hby at_62) ?_
        show Go p e below T56 (mkF m 63 #[.val (.int p1), .val (.int p2), .val (.int (1 : Int32)), .val (.int (2 : Int32)), .val (.ref b2), .unset] [(.int (3 : Int32)), (.int (1 : Int32)), (.ref b2)]) _
        refine XS.imul X56.here hx rfl (hb hby at_63) rfl ?_
        show Go p e below T56 (mkF m 64 #[.val (.int p1), .val (.int p2), .val (.int (1 : Int32)), .val (.int (2 : Int32)), .val (.ref b2), .unset] [(.int (3 : Int32)), (.ref b2)]) _
        refine XS.iloadN X56.here hx rfl (hb hby at_64) rfl ?_
        show Go p e below T56 (mkF m 65 #[.val (.int p1), .val (.int p2), .val (.int (1 : Int32)), .val (.int (2 : Int32)), .val (.ref b2), .unset] [(.int (2 : Int32)), (.int (3 : Int32)), (.ref b2)]) _
        refine XS.iadd X56.here hx rfl (hb hby at_65) rfl ?_
        exact kt)
      obtain ⟨c144, Ar144, -, S144, N144, H144, -⟩ := V56
      have q146 := fun t (kt : Go p e below T56 (mkF m 70 #[.val (.int p1), .val (.int p2), .val (.int (1 : Int32)), .val (.int (2 : Int32)), .val (.ref b2), .val (.int (0 : Int32))] [(.int (1 : Int32))]) t) => q145 t (by
        show Go p e below T56 (mkF m 66 #[.val (.int p1), .val (.int p2), .val (.int (1 : Int32)), .val (.int (2 : Int32)), .val (.ref b2), .unset] [(.int (5 : Int32)), (.ref b2)]) _
        refine X56.baloadBooleans hx (j := (5 : Int32)) (v := (.int (0 : Int32))) (by rw [e56]; exact Ar144.1) (State.isArrayOf_alike hZ.alike Ar144.2.1) Ar144.2.2 (inb_of S144 ⟨by decide, by decide⟩) (Has.at H144 (inb_of S144 ⟨by decide, by decide⟩) rfl) (g := (mkF m 66 #[.val (.int p1), .val (.int p2), .val (.int (1 : Int32)), .val (.int (2 : Int32)), .val (.ref b2), .unset] [(.int (5 : Int32)), (.ref b2)])) rfl rfl (hb hby at_66) _ ?_
        show Go p e below T56 (mkF m 67 #[.val (.int p1), .val (.int p2), .val (.int (1 : Int32)), .val (.int (2 : Int32)), .val (.ref b2), .unset] [(.int (0 : Int32))]) _
        refine XS.istore X56.here hx rfl (hb hby at_67) rfl (l' := #[.val (.int p1), .val (.int p2), .val (.int (1 : Int32)), .val (.int (2 : Int32)), .val (.ref b2), .val (.int (0 : Int32))]) rfl ?_
        show Go p e below T56 (mkF m 69 #[.val (.int p1), .val (.int p2), .val (.int (1 : Int32)), .val (.int (2 : Int32)), .val (.ref b2), .val (.int (0 : Int32))] []) _
        refine XS.iloadN X56.here hx rfl (hb hby at_69) rfl ?_
        exact kt)
      obtain ⟨_, _, ⟨T147, L147, k147, n147⟩, -, X147, ⟨Lc147, hQ147, l147, y147, z147⟩, st147⟩ := Jvm.LawKit.callS X56 hx (y := (⟨"com/example/sloth/sloth/model/TypeAcceptsPinLaw", "pick", "(I)Lcom/example/sloth/sloth/model/Type;"⟩ : MethodName)) hown (mvT hZ (own_w hw 2 rfl)) (mvT hZ (own_w hw 3 rfl)) (mvT hZ (own_w hw 4 rfl)) (mvT hZ (own_w hw 5 rfl)) (by decide) (backOf (W := 0) (rm1_1 l Z a0 hw [] cx  h56 n0 O59 ) hZ (own_w hw 5 rfl) (own_w hw 4 rfl) (by decide) (by decide)) (g := (mkF m 70 #[.val (.int p1), .val (.int p2), .val (.int (1 : Int32)), .val (.int (2 : Int32)), .val (.ref b2), .val (.int (0 : Int32))] [(.int (1 : Int32))])) rfl (by rw [hml]; rfl) (argsL := [(.int (1 : Int32))]) (rest := []) (lenOf pd_0 rfl) rfl (by show 2 * 0 + _ ≤ _; exact Nat.le_of_eq rfl) (hb hby at_70) (fun _ _ => ⟨rfl, e56, (by decide : 1 + 0 ≤ _), (by decide : 9 + 0 ≤ _)⟩)
      dsimp only [Pt.U, Pt.locs, Pt.cells, Pt.slots] at X147 l147 y147 z147 st147 hQ147
      subst l147 y147 z147
      obtain ⟨rfl, Nq147, eq147⟩ := hQ147
      have N148 := Fr.app N58 Nq147
      have q149 := fun t (kt : Go p e below T147 (mkF m 73 #[.val (.int p1), .val (.int p2), .val (.int (1 : Int32)), .val (.int (2 : Int32)), .val (.ref b2), .val (.int (0 : Int32))] [(.ref w_INT)]) t) => q146 t (st147 t kt)
      have q150 := fun t (kt : Go p e below T147 (mkF m 74 #[.val (.int p1), .val (.int p2), .val (.int (1 : Int32)), .val (.int (2 : Int32)), .val (.ref b2), .val (.int (0 : Int32))] [(.int (2 : Int32)), (.ref w_INT)]) t) => q149 t (by
        show Go p e below T147 (mkF m 73 #[.val (.int p1), .val (.int p2), .val (.int (1 : Int32)), .val (.int (2 : Int32)), .val (.ref b2), .val (.int (0 : Int32))] [(.ref w_INT)]) _
        refine XS.iloadN X147.here hx rfl (hb hby at_73) rfl ?_
        exact kt)
      obtain ⟨_, _, ⟨T151, L151, k151, n151⟩, -, X151, ⟨Lc151, hQ151, l151, y151, z151⟩, st151⟩ := Jvm.LawKit.callS X147 hx (y := (⟨"com/example/sloth/sloth/model/TypeAcceptsPinLaw", "pick", "(I)Lcom/example/sloth/sloth/model/Type;"⟩ : MethodName)) hown (mvT hZ (own_w hw 2 rfl)) (mvT hZ (own_w hw 3 rfl)) (mvT hZ (own_w hw 4 rfl)) (mvT hZ (own_w hw 5 rfl)) (by decide) (backOf (W := 1) (rm1_2 l Z a0 hw [] cx  h56 n0 O59 ) hZ (own_w hw 5 rfl) (own_w hw 4 rfl) (by decide) (by decide)) (g := (mkF m 74 #[.val (.int p1), .val (.int p2), .val (.int (1 : Int32)), .val (.int (2 : Int32)), .val (.ref b2), .val (.int (0 : Int32))] [(.int (2 : Int32)), (.ref w_INT)])) rfl (by rw [hml]; rfl) (argsL := [(.int (2 : Int32))]) (rest := [(.ref w_INT)]) (lenOf pd_0 rfl) rfl (by show 2 * 0 + _ ≤ _; exact Nat.le_of_eq rfl) (hb hby at_74) (fun _ _ => ⟨rfl, eq147, (by decide : 1 + 0 ≤ _), (by decide : 9 + 0 ≤ _)⟩)
      dsimp only [Pt.U, Pt.locs, Pt.cells, Pt.slots] at X151 l151 y151 z151 st151 hQ151
      subst l151 y151 z151
      obtain ⟨rfl, Nq151, eq151⟩ := hQ151
      have N152 := Fr.app N148 Nq151
      have q153 := fun t (kt : Go p e below T151 (mkF m 77 #[.val (.int p1), .val (.int p2), .val (.int (1 : Int32)), .val (.int (2 : Int32)), .val (.ref b2), .val (.int (0 : Int32))] [(.ref w_REAL), (.ref w_INT)]) t) => q150 t (st151 t kt)
      obtain ⟨cq155, kq155, q155a, q155b, q155c⟩ := isOf hZ eq151 (cx.2.2.2.2.2.1.ext O59.2)
      obtain ⟨_, _, ⟨T154, L154, k154, n154⟩, -, X154, ⟨Lc154, hQ154, l154, y154, z154⟩, st154⟩ := X151.virtualBack hx (y := (⟨"com/example/sloth/sloth/model/Type", "accepts", "(Lcom/example/sloth/sloth/model/Type;)Z"⟩ : MethodName)) (z := (⟨"com/example/sloth/sloth/model/Type", "accepts", "(Lcom/example/sloth/sloth/model/Type;)Z"⟩ : MethodName)) hown (mvT hZ (own_w hw 9 rfl)) (mvT hZ (own_w hw 10 rfl)) (notFace_of_selects (args := #[]) (mvT hZ (own_w hw 12 rfl))) (mvT hZ (own_w hw 12 rfl)) (mvT hZ (own_w hw 11 rfl)) (by decide) (backOf (W := 0) (rm2_1_2 l Z a0 hw [] cx  h56 n0 O59 ) hZ (own_w hw 13 rfl) (own_w hw 7 rfl) (by decide) (by decide)) q155a q155c (g := (mkF m 77 #[.val (.int p1), .val (.int p2), .val (.int (1 : Int32)), .val (.int (2 : Int32)), .val (.ref b2), .val (.int (0 : Int32))] [(.ref w_REAL), (.ref w_INT)])) rfl (by rw [hml]; rfl) (Steps.refl _) (argsL := [(.ref w_REAL)]) (rest := []) (lenOf pd_1 rfl) rfl (by show 2 * 0 + _ ≤ _; exact Nat.le_of_eq rfl) (hb hby at_77) (fun _ _ => ⟨rfl, eq151, (by decide : 1 + 0 ≤ _), (by decide : 9 + 0 ≤ _)⟩)
      dsimp only [Pt.U, Pt.locs, Pt.cells, Pt.slots] at X154 l154 y154 z154 st154 hQ154
      subst l154 y154 z154
      obtain ⟨rfl, Nq154, eq154⟩ := hQ154
      have N156 := Fr.app N152 Nq154
      have q157 := fun t (kt : Go p e below T154 (mkF m 80 #[.val (.int p1), .val (.int p2), .val (.int (1 : Int32)), .val (.int (2 : Int32)), .val (.ref b2), .val (.int (0 : Int32))] [(.int (0 : Int32))]) t) => q153 t (st154.trans kt)
      have q158 := fun t (kt : Go p e below T154 (mkF m 90 #[.val (.int p1), .val (.int p2), .val (.int (1 : Int32)), .val (.int (2 : Int32)), .val (.ref b2), .val (.int (0 : Int32))] [(.int (1 : Int32))]) t) => q157 t (by
        show Go p e below T154 (mkF m 80 #[.val (.int p1), .val (.int p2), .val (.int (1 : Int32)), .val (.int (2 : Int32)), .val (.ref b2), .val (.int (0 : Int32))] [(.int (0 : Int32))]) _
        refine XS.iload X154.here hx rfl (hb hby at_80) rfl ?_
        show Go p e below T154 (mkF m 82 #[.val (.int p1), .val (.int p2), .val (.int (1 : Int32)), .val (.int (2 : Int32)), .val (.ref b2), .val (.int (0 : Int32))] [(.int (0 : Int32)), (.int (0 : Int32))]) _
        refine XS.icmpNo X154.here hx rfl (hb hby at_82) rfl (teq (rfl : (0 : Int32) = (0 : Int32))).2 ?_
        show Go p e below T154 (mkF m 85 #[.val (.int p1), .val (.int p2), .val (.int (1 : Int32)), .val (.int (2 : Int32)), .val (.ref b2), .val (.int (0 : Int32))] []) _
        refine XS.iconst X154.here hx rfl (hb hby at_85) ?_
        show Go p e below T154 (mkF m 86 #[.val (.int p1), .val (.int p2), .val (.int (1 : Int32)), .val (.int (2 : Int32)), .val (.ref b2), .val (.int (0 : Int32))] [(.int (1 : Int32))]) _
        refine XS.goto X154.here hx rfl (pc0 := 86) (pc' := 90) rfl (hb hby at_86) (by decide) (by decide) ?_
        exact kt)
      exact ⟨some (.int (1 : Int32)), T154, _, _, _, _, X154, by decide, by decide, nofun, q158, fun fs hr => retN X154 hx (t := .boolean) hret (by simp) (hb hby at_90) hr, by rw [eq154]; exact ⟨rfl, N156⟩⟩
  · skip
    have q159 := fun t (kt : Go p e below T56 (mkF m 59 #[.val (.int p1), .val (.int p2), .val (.int (2 : Int32)), .val (.int ((p2 &&& (2147483647 : Int32)) % (3 : Int32))), .val (.ref b2), .unset] []) t) => q60 t (by rw [hi]; exact kt)
    rcases own_mod3 p2 with hj | hj | hj
    · skip
      have q160 := fun t (kt : Go p e below T56 (mkF m 59 #[.val (.int p1), .val (.int p2), .val (.int (2 : Int32)), .val (.int (0 : Int32)), .val (.ref b2), .unset] []) t) => q159 t (by rw [hj]; exact kt)
      have q162 := fun t (kt : Go p e below T56 (mkF m 66 #[.val (.int p1), .val (.int p2), .val (.int (2 : Int32)), .val (.int (0 : Int32)), .val (.ref b2), .unset] [(.int (6 : Int32)), (.ref b2)]) t) => q160 t (by
        show Go p e below T56 (mkF m 59 #[.val (.int p1), .val (.int p2), .val (.int (2 : Int32)), .val (.int (0 : Int32)), .val (.ref b2), .unset] []) _
        refine XS.aload X56.here hx rfl (hb hby at_59) rfl rfl ?_
        show Go p e below T56 (mkF m 61 #[.val (.int p1), .val (.int p2), .val (.int (2 : Int32)), .val (.int (0 : Int32)), .val (.ref b2), .unset] [(.ref b2)]) _
        refine XS.iloadN X56.here hx rfl (hb hby at_61) rfl ?_
        show Go p e below T56 (mkF m 62 #[.val (.int p1), .val (.int p2), .val (.int (2 : Int32)), .val (.int (0 : Int32)), .val (.ref b2), .unset] [(.int (2 : Int32)), (.ref b2)]) _
        refine XS.iconst X56.here hx rfl (hb hby at_62) ?_
        show Go p e below T56 (mkF m 63 #[.val (.int p1), .val (.int p2), .val (.int (2 : Int32)), .val (.int (0 : Int32)), .val (.ref b2), .unset] [(.int (3 : Int32)), (.int (2 : Int32)), (.ref b2)]) _
        refine XS.imul X56.here hx rfl (hb hby at_63) rfl ?_
        show Go p e below T56 (mkF m 64 #[.val (.int p1), .val (.int p2), .val (.int (2 : Int32)), .val (.int (0 : Int32)), .val (.ref b2), .unset] [(.int (6 : Int32)), (.ref b2)]) _
        refine XS.iloadN X56.here hx rfl (hb hby at_64) rfl ?_
        show Go p e below T56 (mkF m 65 #[.val (.int p1), .val (.int p2), .val (.int (2 : Int32)), .val (.int (0 : Int32)), .val (.ref b2), .unset] [(.int (0 : Int32)), (.int (6 : Int32)), (.ref b2)]) _
        refine XS.iadd X56.here hx rfl (hb hby at_65) rfl ?_
        exact kt)
      obtain ⟨c161, Ar161, -, S161, N161, H161, -⟩ := V56
      have q163 := fun t (kt : Go p e below T56 (mkF m 70 #[.val (.int p1), .val (.int p2), .val (.int (2 : Int32)), .val (.int (0 : Int32)), .val (.ref b2), .val (.int (0 : Int32))] [(.int (2 : Int32))]) t) => q162 t (by
        show Go p e below T56 (mkF m 66 #[.val (.int p1), .val (.int p2), .val (.int (2 : Int32)), .val (.int (0 : Int32)), .val (.ref b2), .unset] [(.int (6 : Int32)), (.ref b2)]) _
        refine X56.baloadBooleans hx (j := (6 : Int32)) (v := (.int (0 : Int32))) (by rw [e56]; exact Ar161.1) (State.isArrayOf_alike hZ.alike Ar161.2.1) Ar161.2.2 (inb_of S161 ⟨by decide, by decide⟩) (Has.at H161 (inb_of S161 ⟨by decide, by decide⟩) rfl) (g := (mkF m 66 #[.val (.int p1), .val (.int p2), .val (.int (2 : Int32)), .val (.int (0 : Int32)), .val (.ref b2), .unset] [(.int (6 : Int32)), (.ref b2)])) rfl rfl (hb hby at_66) _ ?_
        show Go p e below T56 (mkF m 67 #[.val (.int p1), .val (.int p2), .val (.int (2 : Int32)), .val (.int (0 : Int32)), .val (.ref b2), .unset] [(.int (0 : Int32))]) _
        refine XS.istore X56.here hx rfl (hb hby at_67) rfl (l' := #[.val (.int p1), .val (.int p2), .val (.int (2 : Int32)), .val (.int (0 : Int32)), .val (.ref b2), .val (.int (0 : Int32))]) rfl ?_
        show Go p e below T56 (mkF m 69 #[.val (.int p1), .val (.int p2), .val (.int (2 : Int32)), .val (.int (0 : Int32)), .val (.ref b2), .val (.int (0 : Int32))] []) _
        refine XS.iloadN X56.here hx rfl (hb hby at_69) rfl ?_
        exact kt)
      obtain ⟨_, _, ⟨T164, L164, k164, n164⟩, -, X164, ⟨Lc164, hQ164, l164, y164, z164⟩, st164⟩ := Jvm.LawKit.callS X56 hx (y := (⟨"com/example/sloth/sloth/model/TypeAcceptsPinLaw", "pick", "(I)Lcom/example/sloth/sloth/model/Type;"⟩ : MethodName)) hown (mvT hZ (own_w hw 2 rfl)) (mvT hZ (own_w hw 3 rfl)) (mvT hZ (own_w hw 4 rfl)) (mvT hZ (own_w hw 5 rfl)) (by decide) (backOf (W := 0) (rm1_2 l Z a0 hw [] cx  h56 n0 O59 ) hZ (own_w hw 5 rfl) (own_w hw 4 rfl) (by decide) (by decide)) (g := (mkF m 70 #[.val (.int p1), .val (.int p2), .val (.int (2 : Int32)), .val (.int (0 : Int32)), .val (.ref b2), .val (.int (0 : Int32))] [(.int (2 : Int32))])) rfl (by rw [hml]; rfl) (argsL := [(.int (2 : Int32))]) (rest := []) (lenOf pd_0 rfl) rfl (by show 2 * 0 + _ ≤ _; exact Nat.le_of_eq rfl) (hb hby at_70) (fun _ _ => ⟨rfl, e56, (by decide : 1 + 0 ≤ _), (by decide : 9 + 0 ≤ _)⟩)
      dsimp only [Pt.U, Pt.locs, Pt.cells, Pt.slots] at X164 l164 y164 z164 st164 hQ164
      subst l164 y164 z164
      obtain ⟨rfl, Nq164, eq164⟩ := hQ164
      have N165 := Fr.app N58 Nq164
      have q166 := fun t (kt : Go p e below T164 (mkF m 73 #[.val (.int p1), .val (.int p2), .val (.int (2 : Int32)), .val (.int (0 : Int32)), .val (.ref b2), .val (.int (0 : Int32))] [(.ref w_REAL)]) t) => q163 t (st164 t kt)
      have q167 := fun t (kt : Go p e below T164 (mkF m 74 #[.val (.int p1), .val (.int p2), .val (.int (2 : Int32)), .val (.int (0 : Int32)), .val (.ref b2), .val (.int (0 : Int32))] [(.int (0 : Int32)), (.ref w_REAL)]) t) => q166 t (by
        show Go p e below T164 (mkF m 73 #[.val (.int p1), .val (.int p2), .val (.int (2 : Int32)), .val (.int (0 : Int32)), .val (.ref b2), .val (.int (0 : Int32))] [(.ref w_REAL)]) _
        refine XS.iloadN X164.here hx rfl (hb hby at_73) rfl ?_
        exact kt)
      obtain ⟨_, _, ⟨T168, L168, k168, n168⟩, -, X168, ⟨Lc168, hQ168, l168, y168, z168⟩, st168⟩ := Jvm.LawKit.callS X164 hx (y := (⟨"com/example/sloth/sloth/model/TypeAcceptsPinLaw", "pick", "(I)Lcom/example/sloth/sloth/model/Type;"⟩ : MethodName)) hown (mvT hZ (own_w hw 2 rfl)) (mvT hZ (own_w hw 3 rfl)) (mvT hZ (own_w hw 4 rfl)) (mvT hZ (own_w hw 5 rfl)) (by decide) (backOf (W := 1) (rm1_0 l Z a0 hw [] cx  h56 n0 O59 ) hZ (own_w hw 5 rfl) (own_w hw 4 rfl) (by decide) (by decide)) (g := (mkF m 74 #[.val (.int p1), .val (.int p2), .val (.int (2 : Int32)), .val (.int (0 : Int32)), .val (.ref b2), .val (.int (0 : Int32))] [(.int (0 : Int32)), (.ref w_REAL)])) rfl (by rw [hml]; rfl) (argsL := [(.int (0 : Int32))]) (rest := [(.ref w_REAL)]) (lenOf pd_0 rfl) rfl (by show 2 * 0 + _ ≤ _; exact Nat.le_of_eq rfl) (hb hby at_74) (fun _ _ => ⟨rfl, eq164, (by decide : 1 + 0 ≤ _), (by decide : 9 + 0 ≤ _)⟩)
      dsimp only [Pt.U, Pt.locs, Pt.cells, Pt.slots] at X168 l168 y168 z168 st168 hQ168
      subst l168 y168 z168
      obtain ⟨rfl, Nq168, eq168⟩ := hQ168
      have N169 := Fr.app N165 Nq168
      have q170 := fun t (kt : Go p e below T168 (mkF m 77 #[.val (.int p1), .val (.int p2), .val (.int (2 : Int32)), .val (.int (0 : Int32)), .val (.ref b2), .val (.int (0 : Int32))] [(.ref w_BOOL), (.ref w_REAL)]) t) => q167 t (st168 t kt)
      obtain ⟨cq172, kq172, q172a, q172b, q172c⟩ := isOf hZ eq168 (cx.2.2.2.1.ext O59.2)
      obtain ⟨_, _, ⟨T171, L171, k171, n171⟩, -, X171, ⟨Lc171, hQ171, l171, y171, z171⟩, st171⟩ := X168.virtualBack hx (y := (⟨"com/example/sloth/sloth/model/Type", "accepts", "(Lcom/example/sloth/sloth/model/Type;)Z"⟩ : MethodName)) (z := (⟨"com/example/sloth/sloth/model/Type", "accepts", "(Lcom/example/sloth/sloth/model/Type;)Z"⟩ : MethodName)) hown (mvT hZ (own_w hw 9 rfl)) (mvT hZ (own_w hw 10 rfl)) (notFace_of_selects (args := #[]) (mvT hZ (own_w hw 12 rfl))) (mvT hZ (own_w hw 12 rfl)) (mvT hZ (own_w hw 11 rfl)) (by decide) (backOf (W := 0) (rm2_2_0 l Z a0 hw [] cx  h56 n0 O59 ) hZ (own_w hw 13 rfl) (own_w hw 7 rfl) (by decide) (by decide)) q172a q172c (g := (mkF m 77 #[.val (.int p1), .val (.int p2), .val (.int (2 : Int32)), .val (.int (0 : Int32)), .val (.ref b2), .val (.int (0 : Int32))] [(.ref w_BOOL), (.ref w_REAL)])) rfl (by rw [hml]; rfl) (Steps.refl _) (argsL := [(.ref w_BOOL)]) (rest := []) (lenOf pd_1 rfl) rfl (by show 2 * 0 + _ ≤ _; exact Nat.le_of_eq rfl) (hb hby at_77) (fun _ _ => ⟨rfl, eq168, (by decide : 1 + 0 ≤ _), (by decide : 9 + 0 ≤ _)⟩)
      dsimp only [Pt.U, Pt.locs, Pt.cells, Pt.slots] at X171 l171 y171 z171 st171 hQ171
      subst l171 y171 z171
      obtain ⟨rfl, Nq171, eq171⟩ := hQ171
      have N173 := Fr.app N169 Nq171
      have q174 := fun t (kt : Go p e below T171 (mkF m 80 #[.val (.int p1), .val (.int p2), .val (.int (2 : Int32)), .val (.int (0 : Int32)), .val (.ref b2), .val (.int (0 : Int32))] [(.int (0 : Int32))]) t) => q170 t (st171.trans kt)
      have q175 := fun t (kt : Go p e below T171 (mkF m 90 #[.val (.int p1), .val (.int p2), .val (.int (2 : Int32)), .val (.int (0 : Int32)), .val (.ref b2), .val (.int (0 : Int32))] [(.int (1 : Int32))]) t) => q174 t (by
        show Go p e below T171 (mkF m 80 #[.val (.int p1), .val (.int p2), .val (.int (2 : Int32)), .val (.int (0 : Int32)), .val (.ref b2), .val (.int (0 : Int32))] [(.int (0 : Int32))]) _
        refine XS.iload X171.here hx rfl (hb hby at_80) rfl ?_
        show Go p e below T171 (mkF m 82 #[.val (.int p1), .val (.int p2), .val (.int (2 : Int32)), .val (.int (0 : Int32)), .val (.ref b2), .val (.int (0 : Int32))] [(.int (0 : Int32)), (.int (0 : Int32))]) _
        refine XS.icmpNo X171.here hx rfl (hb hby at_82) rfl (teq (rfl : (0 : Int32) = (0 : Int32))).2 ?_
        show Go p e below T171 (mkF m 85 #[.val (.int p1), .val (.int p2), .val (.int (2 : Int32)), .val (.int (0 : Int32)), .val (.ref b2), .val (.int (0 : Int32))] []) _
        refine XS.iconst X171.here hx rfl (hb hby at_85) ?_
        show Go p e below T171 (mkF m 86 #[.val (.int p1), .val (.int p2), .val (.int (2 : Int32)), .val (.int (0 : Int32)), .val (.ref b2), .val (.int (0 : Int32))] [(.int (1 : Int32))]) _
        refine XS.goto X171.here hx rfl (pc0 := 86) (pc' := 90) rfl (hb hby at_86) (by decide) (by decide) ?_
        exact kt)
      exact ⟨some (.int (1 : Int32)), T171, _, _, _, _, X171, by decide, by decide, nofun, q175, fun fs hr => retN X171 hx (t := .boolean) hret (by simp) (hb hby at_90) hr, by rw [eq171]; exact ⟨rfl, N173⟩⟩
    · skip
      have q176 := fun t (kt : Go p e below T56 (mkF m 59 #[.val (.int p1), .val (.int p2), .val (.int (2 : Int32)), .val (.int (1 : Int32)), .val (.ref b2), .unset] []) t) => q159 t (by rw [hj]; exact kt)
      have q178 := fun t (kt : Go p e below T56 (mkF m 66 #[.val (.int p1), .val (.int p2), .val (.int (2 : Int32)), .val (.int (1 : Int32)), .val (.ref b2), .unset] [(.int (7 : Int32)), (.ref b2)]) t) => q176 t (by
        show Go p e below T56 (mkF m 59 #[.val (.int p1), .val (.int p2), .val (.int (2 : Int32)), .val (.int (1 : Int32)), .val (.ref b2), .unset] []) _
        refine XS.aload X56.here hx rfl (hb hby at_59) rfl rfl ?_
        show Go p e below T56 (mkF m 61 #[.val (.int p1), .val (.int p2), .val (.int (2 : Int32)), .val (.int (1 : Int32)), .val (.ref b2), .unset] [(.ref b2)]) _
        refine XS.iloadN X56.here hx rfl (hb hby at_61) rfl ?_
        show Go p e below T56 (mkF m 62 #[.val (.int p1), .val (.int p2), .val (.int (2 : Int32)), .val (.int (1 : Int32)), .val (.ref b2), .unset] [(.int (2 : Int32)), (.ref b2)]) _
        refine XS.iconst X56.here hx rfl (hb hby at_62) ?_
        show Go p e below T56 (mkF m 63 #[.val (.int p1), .val (.int p2), .val (.int (2 : Int32)), .val (.int (1 : Int32)), .val (.ref b2), .unset] [(.int (3 : Int32)), (.int (2 : Int32)), (.ref b2)]) _
        refine XS.imul X56.here hx rfl (hb hby at_63) rfl ?_
        show Go p e below T56 (mkF m 64 #[.val (.int p1), .val (.int p2), .val (.int (2 : Int32)), .val (.int (1 : Int32)), .val (.ref b2), .unset] [(.int (6 : Int32)), (.ref b2)]) _
        refine XS.iloadN X56.here hx rfl (hb hby at_64) rfl ?_
        show Go p e below T56 (mkF m 65 #[.val (.int p1), .val (.int p2), .val (.int (2 : Int32)), .val (.int (1 : Int32)), .val (.ref b2), .unset] [(.int (1 : Int32)), (.int (6 : Int32)), (.ref b2)]) _
        refine XS.iadd X56.here hx rfl (hb hby at_65) rfl ?_
        exact kt)
      obtain ⟨c177, Ar177, -, S177, N177, H177, -⟩ := V56
      have q179 := fun t (kt : Go p e below T56 (mkF m 70 #[.val (.int p1), .val (.int p2), .val (.int (2 : Int32)), .val (.int (1 : Int32)), .val (.ref b2), .val (.int (1 : Int32))] [(.int (2 : Int32))]) t) => q178 t (by
        show Go p e below T56 (mkF m 66 #[.val (.int p1), .val (.int p2), .val (.int (2 : Int32)), .val (.int (1 : Int32)), .val (.ref b2), .unset] [(.int (7 : Int32)), (.ref b2)]) _
        refine X56.baloadBooleans hx (j := (7 : Int32)) (v := (.int (1 : Int32))) (by rw [e56]; exact Ar177.1) (State.isArrayOf_alike hZ.alike Ar177.2.1) Ar177.2.2 (inb_of S177 ⟨by decide, by decide⟩) (Has.at H177 (inb_of S177 ⟨by decide, by decide⟩) rfl) (g := (mkF m 66 #[.val (.int p1), .val (.int p2), .val (.int (2 : Int32)), .val (.int (1 : Int32)), .val (.ref b2), .unset] [(.int (7 : Int32)), (.ref b2)])) rfl rfl (hb hby at_66) _ ?_
        show Go p e below T56 (mkF m 67 #[.val (.int p1), .val (.int p2), .val (.int (2 : Int32)), .val (.int (1 : Int32)), .val (.ref b2), .unset] [(.int (1 : Int32))]) _
        refine XS.istore X56.here hx rfl (hb hby at_67) rfl (l' := #[.val (.int p1), .val (.int p2), .val (.int (2 : Int32)), .val (.int (1 : Int32)), .val (.ref b2), .val (.int (1 : Int32))]) rfl ?_
        show Go p e below T56 (mkF m 69 #[.val (.int p1), .val (.int p2), .val (.int (2 : Int32)), .val (.int (1 : Int32)), .val (.ref b2), .val (.int (1 : Int32))] []) _
        refine XS.iloadN X56.here hx rfl (hb hby at_69) rfl ?_
        exact kt)
      obtain ⟨_, _, ⟨T180, L180, k180, n180⟩, -, X180, ⟨Lc180, hQ180, l180, y180, z180⟩, st180⟩ := Jvm.LawKit.callS X56 hx (y := (⟨"com/example/sloth/sloth/model/TypeAcceptsPinLaw", "pick", "(I)Lcom/example/sloth/sloth/model/Type;"⟩ : MethodName)) hown (mvT hZ (own_w hw 2 rfl)) (mvT hZ (own_w hw 3 rfl)) (mvT hZ (own_w hw 4 rfl)) (mvT hZ (own_w hw 5 rfl)) (by decide) (backOf (W := 0) (rm1_2 l Z a0 hw [] cx  h56 n0 O59 ) hZ (own_w hw 5 rfl) (own_w hw 4 rfl) (by decide) (by decide)) (g := (mkF m 70 #[.val (.int p1), .val (.int p2), .val (.int (2 : Int32)), .val (.int (1 : Int32)), .val (.ref b2), .val (.int (1 : Int32))] [(.int (2 : Int32))])) rfl (by rw [hml]; rfl) (argsL := [(.int (2 : Int32))]) (rest := []) (lenOf pd_0 rfl) rfl (by show 2 * 0 + _ ≤ _; exact Nat.le_of_eq rfl) (hb hby at_70) (fun _ _ => ⟨rfl, e56, (by decide : 1 + 0 ≤ _), (by decide : 9 + 0 ≤ _)⟩)
      dsimp only [Pt.U, Pt.locs, Pt.cells, Pt.slots] at X180 l180 y180 z180 st180 hQ180
      subst l180 y180 z180
      obtain ⟨rfl, Nq180, eq180⟩ := hQ180
      have N181 := Fr.app N58 Nq180
      have q182 := fun t (kt : Go p e below T180 (mkF m 73 #[.val (.int p1), .val (.int p2), .val (.int (2 : Int32)), .val (.int (1 : Int32)), .val (.ref b2), .val (.int (1 : Int32))] [(.ref w_REAL)]) t) => q179 t (st180 t kt)
      have q183 := fun t (kt : Go p e below T180 (mkF m 74 #[.val (.int p1), .val (.int p2), .val (.int (2 : Int32)), .val (.int (1 : Int32)), .val (.ref b2), .val (.int (1 : Int32))] [(.int (1 : Int32)), (.ref w_REAL)]) t) => q182 t (by
        show Go p e below T180 (mkF m 73 #[.val (.int p1), .val (.int p2), .val (.int (2 : Int32)), .val (.int (1 : Int32)), .val (.ref b2), .val (.int (1 : Int32))] [(.ref w_REAL)]) _
        refine XS.iloadN X180.here hx rfl (hb hby at_73) rfl ?_
        exact kt)
      obtain ⟨_, _, ⟨T184, L184, k184, n184⟩, -, X184, ⟨Lc184, hQ184, l184, y184, z184⟩, st184⟩ := Jvm.LawKit.callS X180 hx (y := (⟨"com/example/sloth/sloth/model/TypeAcceptsPinLaw", "pick", "(I)Lcom/example/sloth/sloth/model/Type;"⟩ : MethodName)) hown (mvT hZ (own_w hw 2 rfl)) (mvT hZ (own_w hw 3 rfl)) (mvT hZ (own_w hw 4 rfl)) (mvT hZ (own_w hw 5 rfl)) (by decide) (backOf (W := 1) (rm1_1 l Z a0 hw [] cx  h56 n0 O59 ) hZ (own_w hw 5 rfl) (own_w hw 4 rfl) (by decide) (by decide)) (g := (mkF m 74 #[.val (.int p1), .val (.int p2), .val (.int (2 : Int32)), .val (.int (1 : Int32)), .val (.ref b2), .val (.int (1 : Int32))] [(.int (1 : Int32)), (.ref w_REAL)])) rfl (by rw [hml]; rfl) (argsL := [(.int (1 : Int32))]) (rest := [(.ref w_REAL)]) (lenOf pd_0 rfl) rfl (by show 2 * 0 + _ ≤ _; exact Nat.le_of_eq rfl) (hb hby at_74) (fun _ _ => ⟨rfl, eq180, (by decide : 1 + 0 ≤ _), (by decide : 9 + 0 ≤ _)⟩)
      dsimp only [Pt.U, Pt.locs, Pt.cells, Pt.slots] at X184 l184 y184 z184 st184 hQ184
      subst l184 y184 z184
      obtain ⟨rfl, Nq184, eq184⟩ := hQ184
      have N185 := Fr.app N181 Nq184
      have q186 := fun t (kt : Go p e below T184 (mkF m 77 #[.val (.int p1), .val (.int p2), .val (.int (2 : Int32)), .val (.int (1 : Int32)), .val (.ref b2), .val (.int (1 : Int32))] [(.ref w_INT), (.ref w_REAL)]) t) => q183 t (st184 t kt)
      obtain ⟨cq188, kq188, q188a, q188b, q188c⟩ := isOf hZ eq184 (cx.2.2.2.1.ext O59.2)
      obtain ⟨_, _, ⟨T187, L187, k187, n187⟩, -, X187, ⟨Lc187, hQ187, l187, y187, z187⟩, st187⟩ := X184.virtualBack hx (y := (⟨"com/example/sloth/sloth/model/Type", "accepts", "(Lcom/example/sloth/sloth/model/Type;)Z"⟩ : MethodName)) (z := (⟨"com/example/sloth/sloth/model/Type", "accepts", "(Lcom/example/sloth/sloth/model/Type;)Z"⟩ : MethodName)) hown (mvT hZ (own_w hw 9 rfl)) (mvT hZ (own_w hw 10 rfl)) (notFace_of_selects (args := #[]) (mvT hZ (own_w hw 12 rfl))) (mvT hZ (own_w hw 12 rfl)) (mvT hZ (own_w hw 11 rfl)) (by decide) (backOf (W := 0) (rm2_2_1 l Z a0 hw [] cx  h56 n0 O59 ) hZ (own_w hw 13 rfl) (own_w hw 7 rfl) (by decide) (by decide)) q188a q188c (g := (mkF m 77 #[.val (.int p1), .val (.int p2), .val (.int (2 : Int32)), .val (.int (1 : Int32)), .val (.ref b2), .val (.int (1 : Int32))] [(.ref w_INT), (.ref w_REAL)])) rfl (by rw [hml]; rfl) (Steps.refl _) (argsL := [(.ref w_INT)]) (rest := []) (lenOf pd_1 rfl) rfl (by show 2 * 0 + _ ≤ _; exact Nat.le_of_eq rfl) (hb hby at_77) (fun _ _ => ⟨rfl, eq184, (by decide : 1 + 0 ≤ _), (by decide : 9 + 0 ≤ _)⟩)
      dsimp only [Pt.U, Pt.locs, Pt.cells, Pt.slots] at X187 l187 y187 z187 st187 hQ187
      subst l187 y187 z187
      obtain ⟨rfl, Nq187, eq187⟩ := hQ187
      have N189 := Fr.app N185 Nq187
      have q190 := fun t (kt : Go p e below T187 (mkF m 80 #[.val (.int p1), .val (.int p2), .val (.int (2 : Int32)), .val (.int (1 : Int32)), .val (.ref b2), .val (.int (1 : Int32))] [(.int (1 : Int32))]) t) => q186 t (st187.trans kt)
      have q191 := fun t (kt : Go p e below T187 (mkF m 90 #[.val (.int p1), .val (.int p2), .val (.int (2 : Int32)), .val (.int (1 : Int32)), .val (.ref b2), .val (.int (1 : Int32))] [(.int (1 : Int32))]) t) => q190 t (by
        show Go p e below T187 (mkF m 80 #[.val (.int p1), .val (.int p2), .val (.int (2 : Int32)), .val (.int (1 : Int32)), .val (.ref b2), .val (.int (1 : Int32))] [(.int (1 : Int32))]) _
        refine XS.iload X187.here hx rfl (hb hby at_80) rfl ?_
        show Go p e below T187 (mkF m 82 #[.val (.int p1), .val (.int p2), .val (.int (2 : Int32)), .val (.int (1 : Int32)), .val (.ref b2), .val (.int (1 : Int32))] [(.int (1 : Int32)), (.int (1 : Int32))]) _
        refine XS.icmpNo X187.here hx rfl (hb hby at_82) rfl (teq (rfl : (1 : Int32) = (1 : Int32))).2 ?_
        show Go p e below T187 (mkF m 85 #[.val (.int p1), .val (.int p2), .val (.int (2 : Int32)), .val (.int (1 : Int32)), .val (.ref b2), .val (.int (1 : Int32))] []) _
        refine XS.iconst X187.here hx rfl (hb hby at_85) ?_
        show Go p e below T187 (mkF m 86 #[.val (.int p1), .val (.int p2), .val (.int (2 : Int32)), .val (.int (1 : Int32)), .val (.ref b2), .val (.int (1 : Int32))] [(.int (1 : Int32))]) _
        refine XS.goto X187.here hx rfl (pc0 := 86) (pc' := 90) rfl (hb hby at_86) (by decide) (by decide) ?_
        exact kt)
      exact ⟨some (.int (1 : Int32)), T187, _, _, _, _, X187, by decide, by decide, nofun, q191, fun fs hr => retN X187 hx (t := .boolean) hret (by simp) (hb hby at_90) hr, by rw [eq187]; exact ⟨rfl, N189⟩⟩
    · skip
      have q192 := fun t (kt : Go p e below T56 (mkF m 59 #[.val (.int p1), .val (.int p2), .val (.int (2 : Int32)), .val (.int (2 : Int32)), .val (.ref b2), .unset] []) t) => q159 t (by rw [hj]; exact kt)
      have q194 := fun t (kt : Go p e below T56 (mkF m 66 #[.val (.int p1), .val (.int p2), .val (.int (2 : Int32)), .val (.int (2 : Int32)), .val (.ref b2), .unset] [(.int (8 : Int32)), (.ref b2)]) t) => q192 t (by
        show Go p e below T56 (mkF m 59 #[.val (.int p1), .val (.int p2), .val (.int (2 : Int32)), .val (.int (2 : Int32)), .val (.ref b2), .unset] []) _
        refine XS.aload X56.here hx rfl (hb hby at_59) rfl rfl ?_
        show Go p e below T56 (mkF m 61 #[.val (.int p1), .val (.int p2), .val (.int (2 : Int32)), .val (.int (2 : Int32)), .val (.ref b2), .unset] [(.ref b2)]) _
        refine XS.iloadN X56.here hx rfl (hb hby at_61) rfl ?_
        show Go p e below T56 (mkF m 62 #[.val (.int p1), .val (.int p2), .val (.int (2 : Int32)), .val (.int (2 : Int32)), .val (.ref b2), .unset] [(.int (2 : Int32)), (.ref b2)]) _
        refine XS.iconst X56.here hx rfl (hb hby at_62) ?_
        show Go p e below T56 (mkF m 63 #[.val (.int p1), .val (.int p2), .val (.int (2 : Int32)), .val (.int (2 : Int32)), .val (.ref b2), .unset] [(.int (3 : Int32)), (.int (2 : Int32)), (.ref b2)]) _
        refine XS.imul X56.here hx rfl (hb hby at_63) rfl ?_
        show Go p e below T56 (mkF m 64 #[.val (.int p1), .val (.int p2), .val (.int (2 : Int32)), .val (.int (2 : Int32)), .val (.ref b2), .unset] [(.int (6 : Int32)), (.ref b2)]) _
        refine XS.iloadN X56.here hx rfl (hb hby at_64) rfl ?_
        show Go p e below T56 (mkF m 65 #[.val (.int p1), .val (.int p2), .val (.int (2 : Int32)), .val (.int (2 : Int32)), .val (.ref b2), .unset] [(.int (2 : Int32)), (.int (6 : Int32)), (.ref b2)]) _
        refine XS.iadd X56.here hx rfl (hb hby at_65) rfl ?_
        exact kt)
      obtain ⟨c193, Ar193, -, S193, N193, H193, -⟩ := V56
      have q195 := fun t (kt : Go p e below T56 (mkF m 70 #[.val (.int p1), .val (.int p2), .val (.int (2 : Int32)), .val (.int (2 : Int32)), .val (.ref b2), .val (.int (1 : Int32))] [(.int (2 : Int32))]) t) => q194 t (by
        show Go p e below T56 (mkF m 66 #[.val (.int p1), .val (.int p2), .val (.int (2 : Int32)), .val (.int (2 : Int32)), .val (.ref b2), .unset] [(.int (8 : Int32)), (.ref b2)]) _
        refine X56.baloadBooleans hx (j := (8 : Int32)) (v := (.int (1 : Int32))) (by rw [e56]; exact Ar193.1) (State.isArrayOf_alike hZ.alike Ar193.2.1) Ar193.2.2 (inb_of S193 ⟨by decide, by decide⟩) (Has.at H193 (inb_of S193 ⟨by decide, by decide⟩) rfl) (g := (mkF m 66 #[.val (.int p1), .val (.int p2), .val (.int (2 : Int32)), .val (.int (2 : Int32)), .val (.ref b2), .unset] [(.int (8 : Int32)), (.ref b2)])) rfl rfl (hb hby at_66) _ ?_
        show Go p e below T56 (mkF m 67 #[.val (.int p1), .val (.int p2), .val (.int (2 : Int32)), .val (.int (2 : Int32)), .val (.ref b2), .unset] [(.int (1 : Int32))]) _
        refine XS.istore X56.here hx rfl (hb hby at_67) rfl (l' := #[.val (.int p1), .val (.int p2), .val (.int (2 : Int32)), .val (.int (2 : Int32)), .val (.ref b2), .val (.int (1 : Int32))]) rfl ?_
        show Go p e below T56 (mkF m 69 #[.val (.int p1), .val (.int p2), .val (.int (2 : Int32)), .val (.int (2 : Int32)), .val (.ref b2), .val (.int (1 : Int32))] []) _
        refine XS.iloadN X56.here hx rfl (hb hby at_69) rfl ?_
        exact kt)
      obtain ⟨_, _, ⟨T196, L196, k196, n196⟩, -, X196, ⟨Lc196, hQ196, l196, y196, z196⟩, st196⟩ := Jvm.LawKit.callS X56 hx (y := (⟨"com/example/sloth/sloth/model/TypeAcceptsPinLaw", "pick", "(I)Lcom/example/sloth/sloth/model/Type;"⟩ : MethodName)) hown (mvT hZ (own_w hw 2 rfl)) (mvT hZ (own_w hw 3 rfl)) (mvT hZ (own_w hw 4 rfl)) (mvT hZ (own_w hw 5 rfl)) (by decide) (backOf (W := 0) (rm1_2 l Z a0 hw [] cx  h56 n0 O59 ) hZ (own_w hw 5 rfl) (own_w hw 4 rfl) (by decide) (by decide)) (g := (mkF m 70 #[.val (.int p1), .val (.int p2), .val (.int (2 : Int32)), .val (.int (2 : Int32)), .val (.ref b2), .val (.int (1 : Int32))] [(.int (2 : Int32))])) rfl (by rw [hml]; rfl) (argsL := [(.int (2 : Int32))]) (rest := []) (lenOf pd_0 rfl) rfl (by show 2 * 0 + _ ≤ _; exact Nat.le_of_eq rfl) (hb hby at_70) (fun _ _ => ⟨rfl, e56, (by decide : 1 + 0 ≤ _), (by decide : 9 + 0 ≤ _)⟩)
      dsimp only [Pt.U, Pt.locs, Pt.cells, Pt.slots] at X196 l196 y196 z196 st196 hQ196
      subst l196 y196 z196
      obtain ⟨rfl, Nq196, eq196⟩ := hQ196
      have N197 := Fr.app N58 Nq196
      have q198 := fun t (kt : Go p e below T196 (mkF m 73 #[.val (.int p1), .val (.int p2), .val (.int (2 : Int32)), .val (.int (2 : Int32)), .val (.ref b2), .val (.int (1 : Int32))] [(.ref w_REAL)]) t) => q195 t (st196 t kt)
      have q199 := fun t (kt : Go p e below T196 (mkF m 74 #[.val (.int p1), .val (.int p2), .val (.int (2 : Int32)), .val (.int (2 : Int32)), .val (.ref b2), .val (.int (1 : Int32))] [(.int (2 : Int32)), (.ref w_REAL)]) t) => q198 t (by
        show Go p e below T196 (mkF m 73 #[.val (.int p1), .val (.int p2), .val (.int (2 : Int32)), .val (.int (2 : Int32)), .val (.ref b2), .val (.int (1 : Int32))] [(.ref w_REAL)]) _
        refine XS.iloadN X196.here hx rfl (hb hby at_73) rfl ?_
        exact kt)
      obtain ⟨_, _, ⟨T200, L200, k200, n200⟩, -, X200, ⟨Lc200, hQ200, l200, y200, z200⟩, st200⟩ := Jvm.LawKit.callS X196 hx (y := (⟨"com/example/sloth/sloth/model/TypeAcceptsPinLaw", "pick", "(I)Lcom/example/sloth/sloth/model/Type;"⟩ : MethodName)) hown (mvT hZ (own_w hw 2 rfl)) (mvT hZ (own_w hw 3 rfl)) (mvT hZ (own_w hw 4 rfl)) (mvT hZ (own_w hw 5 rfl)) (by decide) (backOf (W := 1) (rm1_2 l Z a0 hw [] cx  h56 n0 O59 ) hZ (own_w hw 5 rfl) (own_w hw 4 rfl) (by decide) (by decide)) (g := (mkF m 74 #[.val (.int p1), .val (.int p2), .val (.int (2 : Int32)), .val (.int (2 : Int32)), .val (.ref b2), .val (.int (1 : Int32))] [(.int (2 : Int32)), (.ref w_REAL)])) rfl (by rw [hml]; rfl) (argsL := [(.int (2 : Int32))]) (rest := [(.ref w_REAL)]) (lenOf pd_0 rfl) rfl (by show 2 * 0 + _ ≤ _; exact Nat.le_of_eq rfl) (hb hby at_74) (fun _ _ => ⟨rfl, eq196, (by decide : 1 + 0 ≤ _), (by decide : 9 + 0 ≤ _)⟩)
      dsimp only [Pt.U, Pt.locs, Pt.cells, Pt.slots] at X200 l200 y200 z200 st200 hQ200
      subst l200 y200 z200
      obtain ⟨rfl, Nq200, eq200⟩ := hQ200
      have N201 := Fr.app N197 Nq200
      have q202 := fun t (kt : Go p e below T200 (mkF m 77 #[.val (.int p1), .val (.int p2), .val (.int (2 : Int32)), .val (.int (2 : Int32)), .val (.ref b2), .val (.int (1 : Int32))] [(.ref w_REAL), (.ref w_REAL)]) t) => q199 t (st200 t kt)
      obtain ⟨cq204, kq204, q204a, q204b, q204c⟩ := isOf hZ eq200 (cx.2.2.2.1.ext O59.2)
      obtain ⟨_, _, ⟨T203, L203, k203, n203⟩, -, X203, ⟨Lc203, hQ203, l203, y203, z203⟩, st203⟩ := X200.virtualBack hx (y := (⟨"com/example/sloth/sloth/model/Type", "accepts", "(Lcom/example/sloth/sloth/model/Type;)Z"⟩ : MethodName)) (z := (⟨"com/example/sloth/sloth/model/Type", "accepts", "(Lcom/example/sloth/sloth/model/Type;)Z"⟩ : MethodName)) hown (mvT hZ (own_w hw 9 rfl)) (mvT hZ (own_w hw 10 rfl)) (notFace_of_selects (args := #[]) (mvT hZ (own_w hw 12 rfl))) (mvT hZ (own_w hw 12 rfl)) (mvT hZ (own_w hw 11 rfl)) (by decide) (backOf (W := 0) (rm2_2_2 l Z a0 hw [] cx  h56 n0 O59 ) hZ (own_w hw 13 rfl) (own_w hw 7 rfl) (by decide) (by decide)) q204a q204c (g := (mkF m 77 #[.val (.int p1), .val (.int p2), .val (.int (2 : Int32)), .val (.int (2 : Int32)), .val (.ref b2), .val (.int (1 : Int32))] [(.ref w_REAL), (.ref w_REAL)])) rfl (by rw [hml]; rfl) (Steps.refl _) (argsL := [(.ref w_REAL)]) (rest := []) (lenOf pd_1 rfl) rfl (by show 2 * 0 + _ ≤ _; exact Nat.le_of_eq rfl) (hb hby at_77) (fun _ _ => ⟨rfl, eq200, (by decide : 1 + 0 ≤ _), (by decide : 9 + 0 ≤ _)⟩)
      dsimp only [Pt.U, Pt.locs, Pt.cells, Pt.slots] at X203 l203 y203 z203 st203 hQ203
      subst l203 y203 z203
      obtain ⟨rfl, Nq203, eq203⟩ := hQ203
      have N205 := Fr.app N201 Nq203
      have q206 := fun t (kt : Go p e below T203 (mkF m 80 #[.val (.int p1), .val (.int p2), .val (.int (2 : Int32)), .val (.int (2 : Int32)), .val (.ref b2), .val (.int (1 : Int32))] [(.int (1 : Int32))]) t) => q202 t (st203.trans kt)
      have q207 := fun t (kt : Go p e below T203 (mkF m 90 #[.val (.int p1), .val (.int p2), .val (.int (2 : Int32)), .val (.int (2 : Int32)), .val (.ref b2), .val (.int (1 : Int32))] [(.int (1 : Int32))]) t) => q206 t (by
        show Go p e below T203 (mkF m 80 #[.val (.int p1), .val (.int p2), .val (.int (2 : Int32)), .val (.int (2 : Int32)), .val (.ref b2), .val (.int (1 : Int32))] [(.int (1 : Int32))]) _
        refine XS.iload X203.here hx rfl (hb hby at_80) rfl ?_
        show Go p e below T203 (mkF m 82 #[.val (.int p1), .val (.int p2), .val (.int (2 : Int32)), .val (.int (2 : Int32)), .val (.ref b2), .val (.int (1 : Int32))] [(.int (1 : Int32)), (.int (1 : Int32))]) _
        refine XS.icmpNo X203.here hx rfl (hb hby at_82) rfl (teq (rfl : (1 : Int32) = (1 : Int32))).2 ?_
        show Go p e below T203 (mkF m 85 #[.val (.int p1), .val (.int p2), .val (.int (2 : Int32)), .val (.int (2 : Int32)), .val (.ref b2), .val (.int (1 : Int32))] []) _
        refine XS.iconst X203.here hx rfl (hb hby at_85) ?_
        show Go p e below T203 (mkF m 86 #[.val (.int p1), .val (.int p2), .val (.int (2 : Int32)), .val (.int (2 : Int32)), .val (.ref b2), .val (.int (1 : Int32))] [(.int (1 : Int32))]) _
        refine XS.goto X203.here hx rfl (pc0 := 86) (pc' := 90) rfl (hb hby at_86) (by decide) (by decide) ?_
        exact kt)
      exact ⟨some (.int (1 : Int32)), T203, _, _, _, _, X203, by decide, by decide, nofun, q207, fun fs hr => retN X203 hx (t := .boolean) hret (by simp) (hb hby at_90) hr, by rw [eq203]; exact ⟨rfl, N205⟩⟩
theorem comes_1 {Post : Tables → Env → Array Value → State → Outcome → State → Prop} (hpost : ∀ tb e args s v u, (limb_1_1.after args s (.returned v) u = true ∧ limb_1_2.after args s (.returned v) u = true ∧ True) → FrameEnd s (.returned v) u (Jvm.fieldLocs frame_1_writes args s ++ Jvm.arrayLocs frame_1_arrays args s ++ Jvm.staticLocs frame_1_statics s) 16 128 → Post tb e args s (.returned v) u) :
    ArmFor flags0 classFile x code maxLocals ret World_1 tables_1 room_1 Calls_1 rest_1 Pre_1 Post := by
  intro l hfl _ _ p e ha hc hk s m args below hf hA hF happ hP
  obtain ⟨hcalls, hrest, hpre⟩ := hP
  obtain ⟨-, -, -, hnamed, -, -, -, hat⟩ := (Spec.applies_iff hf).mp happ
  obtain ⟨hg, hn⟩ := and_e (Cond.before_iff.mp (show (Jvm.Cond.and given_1 narrow_1).before args s = true from hpre))
  obtain ⟨gg1, gg2⟩ := and_e hg
  obtain ⟨gg3, gg4⟩ := and_e gg2
  obtain ⟨w0, w1, rfl⟩ : ∃ w0 w1 : Value, args = #[w0, w1] := by
    have hs : args.size = 2 := by simpa [Cond.value, given_1] using gg1
    obtain ⟨L⟩ := args
    match L, hs with
    | [w0, w1], _ => exact ⟨w0, w1, rfl⟩
  have hw := fun d (hd : d ∈ tables_1) => atoms_spec (ws := Jvm.Cond.code x code maxLocals ret :: tables_1) hat d (List.mem_cons_of_mem _ hd)
  have hfit : Fit s := fun {y c} hc i hi => by
    obtain ⟨ha, rfl⟩ := Array.getElem?_eq_some_iff.mp hc
    have q := List.all_eq_true.mp ((Array.all_eq_true_iff_forall_mem.mp hF) _ (Array.getElem_mem ha)) i (List.mem_range.mpr hi)
    simpa [Array.getElem?_eq_getElem hi] using q
  obtain ⟨i0, ei0⟩ := is_v gg3
  obtain rfl : w0 = (.int i0) := Option.some.inj ei0
  obtain ⟨i1, ei1⟩ := is_v gg4
  obtain rfl : w1 = (.int i1) := Option.some.inj ei1
  obtain ⟨nn1, nn2⟩ := and_e hn
  obtain ⟨nn3, nn4⟩ := and_e nn2
  obtain ⟨nn5, nn6⟩ := and_e nn4
  obtain ⟨nn7, nn8⟩ := and_e nn6
  obtain ⟨nn9, nn10⟩ := and_e nn8
  obtain ⟨w_BOOL, ev_w_BOOL⟩ := exa_v nn1
  obtain ⟨w_REAL, ev_w_REAL⟩ := exa_v nn3
  obtain ⟨w_INT, ev_w_INT⟩ := exa_v nn5
  have cx : Cx s w_BOOL w_REAL w_INT := ⟨(Sta.start ev_w_BOOL (Or.inr ⟨(own_w hw 7 rfl), (own_w hw 8 rfl)⟩)), (Exa.start ev_w_BOOL nn1), (Sta.start ev_w_REAL (Or.inr ⟨(own_w hw 7 rfl), (own_w hw 15 rfl)⟩)), (Exa.start ev_w_REAL nn3), (Sta.start ev_w_INT (Or.inr ⟨(own_w hw 7 rfl), (own_w hw 17 rfl)⟩)), (Exa.start ev_w_INT nn5), (own_fldI ev_w_REAL nn7), (own_fldI ev_w_INT nn9), (own_fldI ev_w_BOOL nn10), (Fld.ne (own_fldI ev_w_BOOL nn10) (own_fldI ev_w_INT nn9) (by decide)), (Fld.ne (own_fldI ev_w_BOOL nn10) (own_fldI ev_w_REAL nn7) (by decide)), (Fld.ne (own_fldI ev_w_INT nn9) (own_fldI ev_w_REAL nn7) (by decide))⟩
  obtain ⟨n, o, h1, h2, h3, _, L, rfl, ⟨rfl, N⟩, hq⟩ := rm0 l s _ hw tables_1 cx i0 i1 s.heap s.heap.size (Old.start s)  p e ha hc hk s m _ below hf ((Spec.applies_iff_loose hf).mp happ).1 ⟨rfl, State.Warmed39.refl s, rfl⟩ trivial
  refine ⟨n, _, h1, h2, h3, hpost _ _ _ _ _ _ ⟨Cond.after_iff.mpr rfl, Cond.after_iff.mpr (eq_i res_at (Term.int_eval (1)) rfl), trivial⟩ ⟨hq.1, hq.2.1, (hq.2.2.sift fun y hy => Or.inr (N y hy)).mono (by decide) (by decide)⟩⟩
theorem main_1_1 : Claimed_1_1 := comes_1 fun _ _ _ _ _ _ h hF => ⟨h.1, hF⟩
theorem main_1_2 : Claimed_1_2 := comes_1 fun _ _ _ _ _ _ h hF => ⟨h.2.1, hF⟩
end Jvm.Pilot.@@N@@
namespace Jvm.Pilot.@@N@@
open Jvm Jvm.ClassFile Sem Op Lib Jvm.Free Jvm.Stand Jvm.Pilot.@@N@@.Jvm.D
/-! MADE BY PROGRAM (witnessworld.py) out of the Statement's table words and the real class files: 14 classes; the members and pool entries that the words name. The judged class is class 1, her method 2. -/
namespace start1
open Jvm.ClassFile
def u (s : String) : CpInfo := .utf8 (stringToUtf16 s)
/-- a pool by its gaps: so many unusable entries, then the entry; so many at the end -/
def gap : Nat → List CpInfo → List CpInfo
  | 0, r => r
  | n + 1, r => .unusable :: gap n r
def poolList (es : List (Nat × CpInfo)) (last : Nat) : List CpInfo := es.foldr (fun e r => gap e.1 (e.2 :: r)) (gap last [])
def pool (es : List (Nat × CpInfo)) (last : Nat) : Array CpInfo := ⟨poolList es last⟩
def fileOf (pool : Array CpInfo) (this : Nat) (attrs : Array Attribute := #[]) (ms : Array MethodInfo := #[]) (fl : Nat := 33) (sup : Nat := 0) (ifs : Array Nat := #[]) (fds : Array FieldInfo := #[]) : ClassFile where
  minorVersion := 0
  majorVersion := 65
  constantPool := pool
  accessFlags := fl
  thisClass := this
  superClass := sup
  interfaces := ifs
  fields := fds
  methods := ms
  attributes := attrs
def plain (name : String) (sup : Option ClassId) : Class where
  name := name
  kind := .ordinary
  loader := none
  accessFlags := 33
  super := sup
  interfaces := #[]
  cf := none
  fields := #[]
  methods := #[]
  instanceTypes := #[]
  staticTypes := #[]
  resolved := #[]
  callSites := []
  init := .initialized
  statics := none
  mirror := none

def pool0 : Array CpInfo := pool [(5, u "<init>"), (0, u "()V"), (1, .class_ 10), (1, u "java/lang/Object")] 113

def k0m0 : Method := { name := "<init>", desc := "()V", sig := { parameters := [], returnType := none }, accessFlags := 1, code := none }
/-- java/lang/Object -/
def k0 : Class := { plain "java/lang/Object" none with
  accessFlags := 33
  interfaces := #[]
  cf := some (fileOf pool0 8 #[] #[{ accessFlags := 1, nameIndex := 5, descriptorIndex := 6, attributes := #[] }] 33 0 #[] #[])
  fields := #[]
  methods := #[k0m0]
  instanceTypes := #[]
  staticTypes := #[]
  resolved := Array.replicate 124 none
  statics := none }

def pool1 : Array CpInfo := pool [(2, .class_ 4), (1, u "java/lang/Object"), (0, u "<init>"), (0, u "()V"), (0, .fieldref 8 9), (0, .class_ 10), (0, .nameAndType 11 12), (0, u "com/example/sloth/sloth/model/Type"), (0, u "BOOL"), (0, u "Lcom/example/sloth/sloth/model/Type;"), (0, .fieldref 8 14), (0, .nameAndType 15 12), (0, u "INT"), (0, .fieldref 8 17), (0, .nameAndType 18 12), (0, u "REAL"), (0, .integer 2147483647), (0, .methodref 21 22), (0, .class_ 23), (0, .nameAndType 24 25), (0, u "com/example/sloth/sloth/model/TypeAcceptsPinLaw"), (0, u "pick"), (0, u "(I)Lcom/example/sloth/sloth/model/Type;"), (0, .methodref 8 27), (0, .nameAndType 28 29), (0, u "accepts"), (0, u "(Lcom/example/sloth/sloth/model/Type;)Z"), (3, u "law"), (0, u "(II)Z")] 4

def k1m0 : Method := { name := "<init>", desc := "()V", sig := { parameters := [], returnType := none }, accessFlags := 1, code := none }
def k1c1 : Code := { maxStack := 2, maxLocals := 1, code := method_2_code, exceptionTable := #[], attributes := #[] }
def k1m1 : Method := { name := "pick", desc := "(I)Lcom/example/sloth/sloth/model/Type;", sig := { parameters := [.int], returnType := some (.object "com/example/sloth/sloth/model/Type") }, accessFlags := 10, code := some k1c1 }
def k1c2 : Code := { maxStack := 4, maxLocals := 6, code := code, exceptionTable := #[], attributes := #[] }
def k1m2 : Method := { name := "law", desc := "(II)Z", sig := { parameters := [.int, .int], returnType := some .boolean }, accessFlags := 9, code := some k1c2 }
/-- com/example/sloth/sloth/model/TypeAcceptsPinLaw -/
def k1 : Class := { plain "com/example/sloth/sloth/model/TypeAcceptsPinLaw" (some 0) with
  accessFlags := 49
  interfaces := #[]
  cf := some (fileOf pool1 21 #[] #[{ accessFlags := 1, nameIndex := 5, descriptorIndex := 6, attributes := #[] }, { accessFlags := 10, nameIndex := 24, descriptorIndex := 25, attributes := #[] }, { accessFlags := 9, nameIndex := 33, descriptorIndex := 34, attributes := #[] }] 49 2 #[] #[])
  fields := #[]
  methods := #[k1m0, k1m1, k1m2]
  instanceTypes := #[]
  staticTypes := #[]
  resolved := Array.replicate 39 none
  statics := none }

def pool2 : Array CpInfo := pool [(1, .class_ 2), (0, u "java/lang/constant/Constable"), (0, .class_ 4), (0, u "java/lang/Object")] 6

/-- java/lang/constant/Constable -/
def k2 : Class := { plain "java/lang/constant/Constable" (some 0) with
  accessFlags := 1537
  interfaces := #[]
  cf := some (fileOf pool2 1 #[] #[] 1537 3 #[] #[])
  fields := #[]
  methods := #[]
  instanceTypes := #[]
  staticTypes := #[]
  resolved := Array.replicate 11 none
  statics := none }

def pool3 : Array CpInfo := pool [(1, .class_ 2), (0, u "java/lang/Comparable"), (0, .class_ 4), (0, u "java/lang/Object")] 7

/-- java/lang/Comparable -/
def k3 : Class := { plain "java/lang/Comparable" (some 0) with
  accessFlags := 1537
  interfaces := #[]
  cf := some (fileOf pool3 1 #[] #[] 1537 3 #[] #[])
  fields := #[]
  methods := #[]
  instanceTypes := #[]
  staticTypes := #[]
  resolved := Array.replicate 12 none
  statics := none }

def pool4 : Array CpInfo := pool [(1, .class_ 2), (0, u "java/io/Serializable"), (0, .class_ 4), (0, u "java/lang/Object")] 2

/-- java/io/Serializable -/
def k4 : Class := { plain "java/io/Serializable" (some 0) with
  accessFlags := 1537
  interfaces := #[]
  cf := some (fileOf pool4 1 #[] #[] 1537 3 #[] #[])
  fields := #[]
  methods := #[]
  instanceTypes := #[]
  staticTypes := #[]
  resolved := Array.replicate 7 none
  statics := none }

def pool5 : Array CpInfo := pool [(2, .class_ 4), (1, u "java/lang/Enum"), (0, u "name"), (0, u "Ljava/lang/String;"), (2, u "ordinal"), (0, u "I"), (1, .class_ 14), (1, u "java/lang/Object"), (4, u "hash"), (86, .class_ 108), (1, u "java/lang/Enum$EnumDesc"), (2, .class_ 112), (0, u "java/lang/constant/Constable"), (0, .class_ 114), (0, u "java/lang/Comparable"), (0, .class_ 116), (0, u "java/io/Serializable")] 87

/-- java/lang/Enum -/
def k5 : Class := { plain "java/lang/Enum" (some 0) with
  accessFlags := 1057
  interfaces := #[2, 3, 4]
  cf := some (fileOf pool5 2 #[.nestMembers #[106]] #[] 1057 12 #[111, 113, 115] #[{ accessFlags := 18, nameIndex := 5, descriptorIndex := 6, attributes := #[] }, { accessFlags := 18, nameIndex := 9, descriptorIndex := 10, attributes := #[] }, { accessFlags := 2, nameIndex := 19, descriptorIndex := 10, attributes := #[] }])
  fields := #[{ name := "name", type := (.object "java/lang/String"), accessFlags := 18, slot := 0, constantValue := 0 }, { name := "ordinal", type := .int, accessFlags := 18, slot := 1, constantValue := 0 }, { name := "hash", type := .int, accessFlags := 2, slot := 2, constantValue := 0 }]
  methods := #[]
  instanceTypes := #[(.object "java/lang/String"), .int, .int]
  staticTypes := #[]
  resolved := Array.replicate 204 none
  statics := none }

def pool6 : Array CpInfo := pool [(1, .class_ 2), (0, u "com/example/sloth/sloth/model/Type"), (2, u "BOOL"), (0, u "Lcom/example/sloth/sloth/model/Type;"), (0, .fieldref 1 8), (0, .nameAndType 9 6), (0, u "INT"), (0, .fieldref 1 11), (0, .nameAndType 12 6), (0, u "REAL"), (2, u "$VALUES"), (0, u "[Lcom/example/sloth/sloth/model/Type;"), (6, .class_ 25), (1, u "java/lang/Enum"), (41, u "accepts"), (0, u "(Lcom/example/sloth/sloth/model/Type;)Z")] 4

def k6c0 : Code := { maxStack := 2, maxLocals := 2, code := prog_54_method_6_code, exceptionTable := #[], attributes := #[] }
def k6m0 : Method := { name := "accepts", desc := "(Lcom/example/sloth/sloth/model/Type;)Z", sig := { parameters := [(.object "com/example/sloth/sloth/model/Type")], returnType := some .boolean }, accessFlags := 1, code := some k6c0 }
/-- com/example/sloth/sloth/model/Type -/
def k6 : Class := { plain "com/example/sloth/sloth/model/Type" (some 5) with
  accessFlags := 16433
  interfaces := #[]
  cf := some (fileOf pool6 1 #[] #[{ accessFlags := 1, nameIndex := 67, descriptorIndex := 68, attributes := #[] }] 16433 23 #[] #[{ accessFlags := 16409, nameIndex := 5, descriptorIndex := 6, attributes := #[] }, { accessFlags := 16409, nameIndex := 9, descriptorIndex := 6, attributes := #[] }, { accessFlags := 16409, nameIndex := 12, descriptorIndex := 6, attributes := #[] }, { accessFlags := 4122, nameIndex := 15, descriptorIndex := 16, attributes := #[] }])
  fields := #[{ name := "BOOL", type := (.object "com/example/sloth/sloth/model/Type"), accessFlags := 16409, slot := 0, constantValue := 0 }, { name := "INT", type := (.object "com/example/sloth/sloth/model/Type"), accessFlags := 16409, slot := 1, constantValue := 0 }, { name := "REAL", type := (.object "com/example/sloth/sloth/model/Type"), accessFlags := 16409, slot := 2, constantValue := 0 }, { name := "$VALUES", type := (.array (.object "com/example/sloth/sloth/model/Type")), accessFlags := 4122, slot := 3, constantValue := 0 }]
  methods := #[k6m0]
  instanceTypes := #[(.object "java/lang/String"), .int, .int]
  staticTypes := #[(.object "com/example/sloth/sloth/model/Type"), (.object "com/example/sloth/sloth/model/Type"), (.object "com/example/sloth/sloth/model/Type"), (.array (.object "com/example/sloth/sloth/model/Type"))]
  resolved := Array.replicate 73 none
  statics := some 0 }

def pool7 : Array CpInfo := pool [(1, u "java/lang/Cloneable"), (0, .class_ 1), (0, u "java/lang/Object"), (0, .class_ 3)] 3

/-- java/lang/Cloneable -/
def k7 : Class := { plain "java/lang/Cloneable" (some 0) with
  accessFlags := 1537
  interfaces := #[]
  cf := some (fileOf pool7 2 #[] #[] 1537 4 #[] #[])
  fields := #[]
  methods := #[]
  instanceTypes := #[]
  staticTypes := #[]
  resolved := Array.replicate 8 none
  statics := none }

/-- the primitive boolean -/
def k8 : Class := { plain "boolean" none with kind := .primitive 'Z', accessFlags := 0x411 }
/-- [Z -/
def k9 : Class := { plain "[Z" (some 0) with kind := .array 8 .boolean, interfaces := #[7, 4], accessFlags := 1041 }

/-- the primitive byte -/
def k10 : Class := { plain "byte" none with kind := .primitive 'B', accessFlags := 0x411 }
/-- [B -/
def k11 : Class := { plain "[B" (some 0) with kind := .array 10 .byte, interfaces := #[7, 4], accessFlags := 1041 }

/-- the primitive int -/
def k12 : Class := { plain "int" none with kind := .primitive 'I', accessFlags := 0x411 }
/-- [I -/
def k13 : Class := { plain "[I" (some 0) with kind := .array 12 .int, interfaces := #[7, 4], accessFlags := 1041 }

def heap : Heap := #[{ cls := 6, slots := #[.ref 1, .ref 3, .ref 2, .null], vm := .statics 6 },
  { cls := 6, slots := #[.null, .int 0, .int 0], vm := .none },
  { cls := 6, slots := #[.null, .int 2, .int 0], vm := .none },
  { cls := 6, slots := #[.null, .int 1, .int 0], vm := .none }]
def classes : Array Class := #[k0, k1, k2, k3, k4, k5, k6, k7, k8, k9, k10, k11, k12, k13]
def interned : List (Array UInt16 × Addr) := []
def slotsUsed : Nat := 13
def theMethod : MethodId := ⟨1, 2⟩
def args0 : Array Value := #[.int 5, .int 5]
def aboutOver (below : List Frame) : State where
  vm := { classes := classes, interned := interned.toArray }
  heap := heap
  slotsUsed := slotsUsed
  threads := #[{ frames := .invoking theMethod args0 :: below }]
def below0 : List Frame := [.native { method := ⟨0, 0⟩, args := #[] }]
def about1 : State := aboutOver below0
def p0 : Program := .bare "" "" ""
def e0 : Env := launch0.env 0 0 0
theorem w_frames : about1.frames = Frame.invoking theMethod args0 :: below0 := rfl
set_option maxRecDepth 65536 in
theorem w_args : argsFit about1.vm theMethod args0 = true := by decide +kernel
set_option maxRecDepth 65536 in
theorem w_heap : heapFits about1 = true := by decide +kernel
set_option maxRecDepth 65536 in
theorem w_runnable : about1.curStatus? = some .runnable := by decide +kernel
set_option maxRecDepth 65536 in
theorem w_alone : about1.alone = true := by decide +kernel
set_option maxRecDepth 65536 in
theorem w_named : about1.methodNamed? x = some theMethod := by decide +kernel
set_option maxRecDepth 65536 in
theorem w_hears : about1.hears theMethod below0 = true := by decide +kernel
set_option maxRecDepth 65536 in
theorem w_ripe : about1.ripe theMethod args0 below0 = true := by decide +kernel
theorem w_running : about1.status = .running := rfl
set_option maxRecDepth 65536 in
theorem w_room : about1.hasRoom e0.platform room_1 = true :=
  launch0.hasRoom_least _ room_1 (by decide +kernel) (by decide +kernel) (by decide +kernel) (by decide +kernel) (by decide +kernel) (by decide +kernel)
theorem allAtoms_all (ts : List Jvm.Cond) (a : Array Jvm.Value) (st : Jvm.State) : (allAtoms ts).before a st = ts.all (fun c => c.before a st) := by
  induction ts with
  | nil => rfl
  | cons c t ih =>
    show (Jvm.Cond.and c (allAtoms t)).before a st = _
    rw [Jvm.Cond.before_and, ih, List.all_cons]
def words1 : List Jvm.Cond := Jvm.Cond.code x code maxLocals ret :: tables_1
/-- a 'code' word, met by the world's own term for the bytes: nothing is compared byte by byte -/
theorem code_word {y : MethodName} {bytes : ByteArray} {mx : Nat} {rt : Option FieldType} {a : Array Value} {s : State} {m : MethodId} {meth : Method} {c : Code} (h1 : s.methodNamed? y = some m) (h2 : s.vm.method? m = some meth) (h3 : meth.code = some c) (h4 : c.code = bytes)
    (h5 : (c.maxLocals == mx && c.exceptionTable.isEmpty && decide (c.maxStack ≤ mostOperands) && decide (meth.sig.returnType = rt) && !meth.locks && decide (parseMethodDescriptor y.desc = some meth.sig)) = true) : (Jvm.Cond.code y bytes mx rt).before a s = true := by
  simp only [Bool.and_eq_true, beq_iff_eq, Bool.not_eq_true', decide_eq_true_eq] at h5
  obtain ⟨⟨⟨⟨⟨g1, g2⟩, g3⟩, g4⟩, g5⟩, g6⟩ := h5
  simp [Cond.before, Cond.holds, Cond.value, h1, h2, h3, h4, g1, g2, g3, g4, g5, g6]
def isCode : Jvm.Cond → Bool
  | .code _ _ _ _ => true
  | _ => false
theorem all_split {L : List Jvm.Cond} {P : Jvm.Cond → Bool} (h1 : L.all (fun c => isCode c || P c) = true) (h2 : ∀ c ∈ L.filter isCode, P c = true) : L.all P = true := by
  refine List.all_eq_true.mpr fun c hc => ?_
  have h := List.all_eq_true.mp h1 c hc
  rcases Bool.eq_false_or_eq_true (isCode c) with hi | hi
  · exact h2 c (List.mem_filter.mpr ⟨hc, hi⟩)
  · simpa [hi] using h
set_option maxRecDepth 65536 in
theorem w_c0 : (Jvm.Cond.code x code maxLocals ret).before args0 about1 = true := code_word (m := ⟨1, 2⟩) (meth := k1m2) (c := k1c2) (by decide +kernel) rfl rfl rfl (by decide +kernel)
set_option maxRecDepth 65536 in
theorem w_c1 : (Jvm.Cond.code ({ cls := "com/example/sloth/sloth/model/TypeAcceptsPinLaw", name := "pick", desc := "(I)Lcom/example/sloth/sloth/model/Type;" } : Jvm.MethodName) method_2_code (1 : Nat) (Option.some (Jvm.ClassFile.FieldType.object "com/example/sloth/sloth/model/Type"))).before args0 about1 = true := code_word (m := ⟨1, 1⟩) (meth := k1m1) (c := k1c1) (by decide +kernel) rfl rfl rfl (by decide +kernel)
set_option maxRecDepth 65536 in
theorem w_c2 : (Jvm.Cond.code ({ cls := "com/example/sloth/sloth/model/Type", name := "accepts", desc := "(Lcom/example/sloth/sloth/model/Type;)Z" } : Jvm.MethodName) prog_54_method_6_code (2 : Nat) (Option.some Jvm.ClassFile.FieldType.boolean)).before args0 about1 = true := code_word (m := ⟨6, 0⟩) (meth := k6m0) (c := k6c0) (by decide +kernel) rfl rfl rfl (by decide +kernel)
def codes1 : List Jvm.Cond := [Jvm.Cond.code x code maxLocals ret, Jvm.Cond.code ({ cls := "com/example/sloth/sloth/model/TypeAcceptsPinLaw", name := "pick", desc := "(I)Lcom/example/sloth/sloth/model/Type;" } : Jvm.MethodName) method_2_code (1 : Nat) (Option.some (Jvm.ClassFile.FieldType.object "com/example/sloth/sloth/model/Type")), Jvm.Cond.code ({ cls := "com/example/sloth/sloth/model/Type", name := "accepts", desc := "(Lcom/example/sloth/sloth/model/Type;)Z" } : Jvm.MethodName) prog_54_method_6_code (2 : Nat) (Option.some Jvm.ClassFile.FieldType.boolean)]
set_option maxRecDepth 65536 in
theorem codes_eq : words1.filter isCode = codes1 := rfl
theorem w_codes : ∀ c ∈ words1.filter isCode, c.before args0 about1 = true := by
  rw [codes_eq]
  intro c hc
  simp only [codes1, List.mem_cons, List.not_mem_nil, or_false] at hc
  rcases hc with rfl | rfl | rfl
  · exact w_c0
  · exact w_c1
  · exact w_c2
set_option maxRecDepth 65536 in
theorem w_t1 : words1.all (fun c => isCode c || c.before args0 about1) = true := by decide +kernel
theorem w_tables : (allAtoms (Jvm.Cond.code x code maxLocals ret :: tables_1)).before args0 about1 = true := by
  rw [allAtoms_all]
  show words1.all (fun c => c.before args0 about1) = true
  refine all_split ?_ w_codes
  rw [w_t1]
set_option maxRecDepth 65536 in
theorem w_case : (Jvm.Cond.and given_1 narrow_1).before args0 about1 = true := by decide +kernel
theorem w_applies : (headSpec (Jvm.Cond.code x code maxLocals ret :: tables_1) room_1).applies x e0.platform about1 = true :=
  (Spec.applies_iff w_frames).mpr ⟨w_running, w_runnable, w_alone, w_named, w_hears, w_ripe, w_room, w_tables⟩
theorem atStart : AtStart classFile x code maxLocals ret World_1 tables_1 room_1 Calls_1 rest_1 Pre_1 launch0 p0 e0 about1 theMethod args0 below0 :=
  ⟨lists_1, trivial, launch0.admits_env _ _ _, launch0.least_env, fairChoices_fair.cas, fairChoices_fair.clock, w_frames, w_args, w_heap, w_applies, trivial, trivial, w_case⟩
end start1
theorem witness_1 : WitnessClaimed_1 := ⟨start1.p0, start1.e0, start1.about1, start1.theMethod, start1.args0, start1.below0, start1.atStart⟩
end Jvm.Pilot.@@N@@
