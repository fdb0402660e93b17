import JvmDerived
import JvmDerived.Pilot.@@N@@Statement
import JvmDerived.Pilot.@@N@@Code
set_option linter.unusedVariables false
set_option linter.unusedSimpArgs false
set_option maxRecDepth 65536
set_option maxHeartbeats 40000000
namespace Jvm.RoadKit
open Sem ClassFile Op Lib Jvm.Stand Jvm.Free Jvm.LawKit
section New
variable {p : Program} {l : Launch} {e : Env} {R : Room} {s : State} {m : MethodId} {args : Array Value} {below : List Frame} {meth : Method} {c : Code} {T : State} {locs : List Loc} {cells slots : Nat}
theorem retI (X : Stand p l e R s m args below meth c T locs cells slots) (hx : p.tables.exec = Jvm.exec) {pc : Nat} {Ls : Array Slot} {z : Int32} {rest : List Value} (hret : meth.sig.returnType = some .int) (hd : decode c.code pc = .ok (.ireturn, 1)) {fs : List Frame}
    (hl : ∀ (f : JFrame) (acts : List Action), f.method = m → f.locked = none → f.entered = [] → (doReturn e (T.setTop f) acts (some (.int z))).1 = T.setFrames fs) : Steps p.tables e below (T.setTop (mkF m pc Ls (.int z :: rest))) (T.setFrames fs) := by
  have hm' : T.vm.method? m = some meth := X.method'
  have hn : narrow .int (.int z) = .int z := rfl
  show Steps p.tables e below (T.setTop { method := m, pc := pc, locals := Ls, stack := _ :: rest, locked := none }) _
  jvm_step X.here [X.here.top, hx, hd, hm', hret, hn]
  first | (intro acts; rw [hl _ acts rfl rfl rfl]) | rw [hl _ _ rfl rfl rfl]
  exact Steps.refl _
end New
end Jvm.RoadKit
namespace Jvm.Pilot.@@N@@
open Jvm Jvm.ClassFile Sem Op Lib Jvm.Free Jvm.Stand Jvm.LawKit Jvm.RoadKit Bundle Jvm.Pilot.@@N@@.Jvm.D
theorem own_w {Z : State} {a0 : Array Value} (hw : ∀ d ∈ tables_1, d.before a0 Z = true) (k : Nat) {d : Jvm.Cond} (h : tables_1[k]? = some d) : d.before a0 Z = true := hw _ (List.mem_of_getElem? h)
abbrev own_R (f c s l : Nat) : Room := { frames := f, cells := c, slots := s, locals := l }
abbrev vU : Slot := .unset
abbrev vS : Slot := .second
abbrev vN : Slot := .val .null
abbrev vI (x : Int32) : Slot := .val (.int x)
abbrev vJ (x : Int64) : Slot := .val (.long x)
abbrev vR (x : Addr) : Slot := .val (.ref x)
abbrev vV (x : Value) : Slot := .val x
abbrev Go (p : Program) (e : Env) (below : List Frame) (T : State) (f : JFrame) (t : State) : Prop := Steps p.tables e below (T.setTop f) t
theorem own_and255L (x : Int32) : ¬ (x &&& (255 : Int32)) < 0 ∧ ¬ (255 : Int32) < (x &&& (255 : Int32)) := by
  have h1 := c_mask x 255 8 (by decide) (by decide)
  have e1 : (255 : Int32).toInt = 255 := rfl
  rw [Int32.lt_iff_toInt_lt, Int32.lt_iff_toInt_lt, Int32.toInt_zero]
  constructor <;> omega
theorem own_narR {v : Value} (t : FieldType) (ht : t.isReference = true) (hv : v.isRef = true) : narrow t v = v := by cases t <;> cases v <;> simp_all [narrow, FieldType.isReference, Value.isRef]
abbrev OwnMet (l : Launch) (y : MethodName) (ws : List Jvm.Cond) (rm : Room) (A : Array Value) (Z : State) (h0 : Heap) (Q : Option Value → Heap → List Loc → Prop) : Prop :=
  MetFree l y (head1 ws rm) (fun a U => a = A ∧ Z.Warmed39 U.vm ∧ U.heap = h0) (fun _ _ _ _ _ => True) (fun _ U o U' => ∃ v L, o = .returned v ∧ Q v U'.heap L ∧ FrameEnd U o U' L rm.cells rm.slots)
theorem own_body {l : Launch} {y : MethodName} {ws : List Jvm.Cond} {rm : Room} {bytes : ByteArray} {maxL : Nat} {ret : Option FieldType} {A : Array Value} {Z : State} {h0 : Heap} {Q : Option Value → Heap → List Loc → Prop} (hp : plainFor y = true)
    (his : ∀ args (s : State) m, (head1 ws rm).pre.before args s = true → s.methodNamed? y = some m → ∃ meth c, s.vm.method? m = some meth ∧ meth.code = some c ∧ c.code = bytes ∧ c.maxLocals = maxL ∧ meth.sig.returnType = ret ∧ meth.locks = false)
    (body : ∀ (p : Program) (e : Env) (s : State) (m : MethodId) (below : List Frame) (meth : Method) (c : Code) (s₁ : State), p.tables.exec = Jvm.exec → c.code = bytes → c.maxLocals = maxL → s.vm.findClass y.cls = some m.cls → meth.name = y.name → meth.sig.returnType = ret → Z.Warmed39 s.vm → Stand p l e rm s m A below meth c s₁ [] 0 0 → s₁.heap = h0 →
      ∃ (v : Option Value) (T : State) (locs : List Loc) (cells slots : Nat) (f : JFrame), Stand p l e rm s m A below meth c T locs cells slots ∧ cells ≤ rm.cells ∧ slots ≤ rm.slots ∧ (ret = none → v = none) ∧ (∀ t, Go p e below T f t → Go p e below s₁ (entryFrame m A maxL) t) ∧
        (∀ fs, (∀ (f : JFrame) (acts : List Action), f.method = m → f.locked = none → f.entered = [] → (doReturn e (T.setTop f) acts v).1 = T.setFrames fs) → Go p e below T f (T.setFrames fs)) ∧ Q v T.heap locs) :
    MetFree l y (head1 ws rm) (fun a U => a = A ∧ Z.Warmed39 U.vm ∧ U.heap = h0) (fun _ _ _ _ _ => True) (fun _ U o U' => ∃ v L, o = .returned v ∧ Q v U'.heap L ∧ FrameEnd U o U' L rm.cells rm.slots) := by
  refine MetFree.of_bodySF hp his ?_
  intro p e s m args below meth c s₁ Bd hml0 hP hK
  obtain ⟨rfl, hZ, hh⟩ := hP
  obtain ⟨v, T, locs, cells, slots, f, X, hc, hs, hv, q, hf, hQ⟩ := body p e s m below meth c s₁ Bd.exec Bd.bytes hml0 (findClass_of_methodNamed Bd.named) (name_of_methodNamed Bd.named Bd.method).1 Bd.returns hZ (Stand.of_body Bd) (by rw [← hh, Bd.state]; rfl)
  obtain ⟨fs, hr, hrun, hended, hW, hsame⟩ := X.leave (v := v) (fun h => hv (Bd.returns ▸ h))
  exact ⟨_, _, q _ (hf fs hr), hrun, hended, v, locs, rfl, hQ, ⟨_, rfl⟩, hW, hsame.mono hc hs⟩
theorem own_eqI {args : Array Value} {Z : State} {t : Term} {k : Int32} (h : (Jvm.Cond.eq t (Term.int k)).value args Z none Z [] = some true) : t.eval args Z none [] Z = some (.int k) := by
  obtain ⟨x, y, e1, e2, k1, k2⟩ := cmp_v (Or.inl h)
  rw [Term.int_eval] at e2; cases Option.some.inj e2
  cases x <;> first | (obtain ⟨z, hz⟩ := k2; cases hz; simp [Cond.value, e1, Term.int_eval] at h; rw [e1, h]) | (obtain ⟨z, hz⟩ := k2; cases hz)
theorem own_fldI {args : Array Value} {Z : State} {t : Term} {k : Int32} {C n d : String} {w : Addr} (ht : t.eval args Z none [] Z = some (.ref w)) (h : (Jvm.Cond.eq (Term.field t C n d) (Term.int k)).value args Z none Z [] = some true) : Fld Z Z.heap w C n d (.int k) :=
  Fld.start ((fld_at ht).symm.trans (own_eqI h))
def Cx (Z : State) (w_EQ : Addr) (w_LT : Addr) (w_GT : Addr) : Prop := Sta Z Z.heap "com/example/fence/fence/Filter$Op" "EQ" "Lcom/example/fence/fence/Filter$Op;" (.ref w_EQ) ∧ Exa Z Z.heap w_EQ "com/example/fence/fence/Filter$Op" ∧ Sta Z Z.heap "com/example/fence/fence/Filter$Op" "LT" "Lcom/example/fence/fence/Filter$Op;" (.ref w_LT) ∧ Exa Z Z.heap w_LT "com/example/fence/fence/Filter$Op" ∧ Sta Z Z.heap "com/example/fence/fence/Filter$Op" "GT" "Lcom/example/fence/fence/Filter$Op;" (.ref w_GT) ∧ Exa Z Z.heap w_GT "com/example/fence/fence/Filter$Op" ∧ Fld Z Z.heap w_EQ "java/lang/Enum" "ordinal" "I" (.int (0 : Int32)) ∧ Fld Z Z.heap w_LT "java/lang/Enum" "ordinal" "I" (.int (1 : Int32)) ∧ Fld Z Z.heap w_GT "java/lang/Enum" "ordinal" "I" (.int (2 : Int32))
theorem own_tri (x : Int32) : (x < (0 : Int32) ∧ ¬ (x = (0 : Int32)) ∧ ¬ ((0 : Int32) < x)) ∨ (x = (0 : Int32) ∧ ¬ (x < (0 : Int32)) ∧ ¬ ((0 : Int32) < x)) ∨ ((0 : Int32) < x ∧ ¬ (x = (0 : Int32)) ∧ ¬ (x < (0 : Int32))) := by
  simp only [Int32.lt_iff_toInt_lt, ← Int32.toInt_inj, Int32.toInt_zero]; omega
theorem ef_2_R (m : MethodId) (x0 : Addr) : entryFrame m #[(.ref x0)] 1 = mkF m 0 #[.val (.ref x0)] [] := by first | (simp [entryFrame, mkF, argsToLocals, Value.category]; done) | rfl
theorem pn_2 : plainName "java/lang/Enum" = true := by first | (simp [plainName, overriddenIn]; done) | decide +kernel
theorem d2_0 : decode jdk_37_method_2_code 0 = .ok (.aload_n 0, 1) := by decide +kernel
theorem d2_1 : decode jdk_37_method_2_code 1 = .ok (.getfield 7, 3) := by decide +kernel
theorem d2_4 : decode jdk_37_method_2_code 4 = .ok (.ireturn, 1) := by decide +kernel
def Q_rm2 (Z : State) (a1 : Addr) (w2 : Int32) (w_EQ : Addr) (w_LT : Addr) (w_GT : Addr) (h0 : Heap) (n0 : Nat) (v : Option Value) (h : Heap) (L : List Loc) : Prop := v = some (.int w2) ∧ Fr n0 L ∧ h = h0
theorem rm2 (l : Launch) (Z : State) (a0 : Array Value) (hw : ∀ d ∈ tables_1, d.before a0 Z = true) (ws : List Jvm.Cond) {w_EQ : Addr} {w_LT : Addr} {w_GT : Addr} (cx : Cx Z w_EQ w_LT w_GT) (a1 : Addr) (w2 : Int32) (h0 : Heap) (n0 : Nat) (O0 : Old Z n0 h0) (F1 : Fld Z h0 a1 "java/lang/Enum" "ordinal" "I" (.int w2)) :
    OwnMet l (⟨"java/lang/Enum", "ordinal", "()I"⟩ : MethodName) (Jvm.Cond.code (⟨"java/lang/Enum", "ordinal", "()I"⟩ : MethodName) jdk_37_method_2_code 1 (some .int) :: ws) (own_R 0 0 0 0) #[(.ref a1)] Z h0 (Q_rm2 Z a1 w2 w_EQ w_LT w_GT h0 n0) := by
  refine own_body (plainFor_of_name pn_2) hisR fun p e s m below meth c s₁ hx hby hml hown hnm hret hZ X0 e0 => ?_
  have N0 := Fr.nil n0
  have pre0 : ∀ t, Go p e below s₁ (mkF m 0 #[.val (.ref a1)] []) t → Go p e below s₁ (entryFrame m #[(.ref a1)] 1) t := fun t k => castTop (ef_2_R m a1) k
  have q21 := fun t (kt : Go p e below s₁ (mkF m 1 #[.val (.ref a1)] [(.ref a1)]) t) => pre0 t (by
    show Go p e below s₁ (mkF m 0 #[.val (.ref a1)] []) _
    refine XS.aloadN X0.here hx rfl (hb hby d2_0) rfl rfl ?_
    exact kt)
  obtain ⟨T22, X22, e22, st22⟩ := getF X0 hx hZ hown (host := "") (Or.inl (own_w hw 15 rfl)) Via.refl e0 F1 (g := (mkF m 1 #[.val (.ref a1)] [(.ref a1)])) rfl rfl (hb hby d2_1)
  have q23 := fun t (kt : Go p e below T22 (mkF m 4 #[.val (.ref a1)] [(.int w2)]) t) => q21 t (st22 t kt)
  exact ⟨some (.int w2), T22, _, _, _, _, X22, by decide, by decide, nofun, q23, fun fs hr => retI X22 hx hret (hb hby d2_4) hr, by rw [e22]; exact ⟨rfl, N0, rfl⟩⟩
theorem ef_1_RI (m : MethodId) (x0 : Addr) (x1 : Int32) : entryFrame m #[(.ref x0), (.int x1)] 3 = mkF m 0 #[.val (.ref x0), .val (.int x1), .unset] [] := by first | (simp [entryFrame, mkF, argsToLocals, Value.category]; done) | rfl
theorem pn_1 : plainName "com/example/fence/fence/Filter$Op" = true := by first | (simp [plainName, overriddenIn]; done) | decide +kernel
theorem d1_0 : decode prog_7_method_4_code 0 = .ok (.aload_n 0, 1) := by decide +kernel
theorem d1_1 : decode prog_7_method_4_code 1 = .ok (.invokevirtual 32, 3) := by decide +kernel
theorem pd_0 : parseMethodDescriptor "()I" = some ⟨[], some .int⟩ := by decide +kernel
theorem d1_4 : decode prog_7_method_4_code 4 = .ok (.lookupswitch 54 #[(0, 28), (1, 41)], 28) := by decide +kernel
theorem d1_32 : decode prog_7_method_4_code 32 = .ok (.iload_n 1, 1) := by decide +kernel
theorem d1_33 : decode prog_7_method_4_code 33 = .ok (.ifCond .ne 7, 3) := by decide +kernel
theorem d1_40 : decode prog_7_method_4_code 40 = .ok (.iconst 0, 1) := by decide +kernel
theorem d1_41 : decode prog_7_method_4_code 41 = .ok (.istore_n 2, 1) := by decide +kernel
theorem d1_42 : decode prog_7_method_4_code 42 = .ok (.goto 26, 3) := by decide +kernel
theorem d1_68 : decode prog_7_method_4_code 68 = .ok (.iload_n 2, 1) := by decide +kernel
theorem d1_69 : decode prog_7_method_4_code 69 = .ok (.ireturn, 1) := by decide +kernel
def Q_rm1_EQ0 (Z : State) (p2 : Int32) (w_EQ : Addr) (w_LT : Addr) (w_GT : Addr) (h0 : Heap) (n0 : Nat) (v : Option Value) (h : Heap) (L : List Loc) : Prop := v = some (.int (0 : Int32)) ∧ Fr n0 L ∧ h = h0
theorem rm1_EQ0 (l : Launch) (Z : State) (a0 : Array Value) (hw : ∀ d ∈ tables_1, d.before a0 Z = true) (ws : List Jvm.Cond) {w_EQ : Addr} {w_LT : Addr} {w_GT : Addr} (cx : Cx Z w_EQ w_LT w_GT) (p2 : Int32) (h0 : Heap) (n0 : Nat) (O0 : Old Z n0 h0) (hp : ¬ (p2 = (0 : Int32))) :
    OwnMet l (⟨"com/example/fence/fence/Filter$Op", "holds", "(I)Z"⟩ : MethodName) (Jvm.Cond.code (⟨"com/example/fence/fence/Filter$Op", "holds", "(I)Z"⟩ : MethodName) prog_7_method_4_code 3 (some .boolean) :: ws) (own_R 1 0 0 12) #[(.ref w_EQ), (.int p2)] Z h0 (Q_rm1_EQ0 Z p2 w_EQ w_LT w_GT h0 n0) := by
  refine own_body (plainFor_of_name pn_1) hisR fun p e s m below meth c s₁ hx hby hml hown hnm hret hZ X0 e0 => ?_
  have N0 := Fr.nil n0
  have pre0 : ∀ t, Go p e below s₁ (mkF m 0 #[.val (.ref w_EQ), .val (.int p2), .unset] []) t → Go p e below s₁ (entryFrame m #[(.ref w_EQ), (.int p2)] 3) t := fun t k => castTop (ef_1_RI m w_EQ p2) k
  have q21 := fun t (kt : Go p e below s₁ (mkF m 1 #[.val (.ref w_EQ), .val (.int p2), .unset] [(.ref w_EQ)]) t) => pre0 t (by
    show Go p e below s₁ (mkF m 0 #[.val (.ref w_EQ), .val (.int p2), .unset] []) _
    refine XS.aloadN X0.here hx rfl (hb hby d1_0) rfl rfl ?_
    exact kt)
  obtain ⟨cq23, kq23, q23a, q23b, q23c⟩ := isOf hZ e0 (cx.2.1.ext O0.2)
  obtain ⟨_, _, ⟨T22, L22, k22, n22⟩, -, X22, ⟨Lc22, hQ22, l22, y22, z22⟩, st22⟩ := X0.virtualBackUp hx (x := (⟨"com/example/fence/fence/Filter$Op", "ordinal", "()I"⟩ : MethodName)) (y := (⟨"java/lang/Enum", "ordinal", "()I"⟩ : MethodName)) (owner := "java/lang/Enum") hown (mvT hZ (own_w hw 8 rfl)) (mvT hZ (own_w hw 9 rfl)) (mvT hZ (own_w hw 10 rfl)) (by decide) (mvT hZ (own_w hw 12 rfl)) (mvT hZ (own_w hw 11 rfl)) (backOf (W := 0) (rm2 l Z a0 hw [] cx w_EQ (0 : Int32) h0 n0 O0 (cx.2.2.2.2.2.2.1.ext O0.2)) hZ (own_w hw 14 rfl) (own_w hw 13 rfl) (by decide) (by decide)) q23a q23c (g := (mkF m 1 #[.val (.ref w_EQ), .val (.int p2), .unset] [(.ref w_EQ)])) rfl (by rw [hml]; rfl) (Steps.refl _) (argsL := []) (rest := []) (lenOf pd_0 rfl) rfl (by show 2 * 0 + _ ≤ _; exact Nat.le_of_eq rfl) (hb hby d1_1) (fun _ _ => ⟨rfl, e0, (by decide : 0 + 0 ≤ _), (by decide : 0 + 0 ≤ _)⟩)
  dsimp only [Pt.U, Pt.locs, Pt.cells, Pt.slots] at X22 l22 y22 z22 st22 hQ22
  subst l22 y22 z22
  obtain ⟨rfl, Nq22, eq22⟩ := hQ22
  have N24 := Fr.app N0 Nq22
  have q25 := fun t (kt : Go p e below T22 (mkF m 4 #[.val (.ref w_EQ), .val (.int p2), .unset] [(.int (0 : Int32))]) t) => q21 t (st22.trans kt)
  have q26 := fun t (kt : Go p e below T22 (mkF m 69 #[.val (.ref w_EQ), .val (.int p2), .val (.int (0 : Int32))] [(.int (0 : Int32))]) t) => q25 t (by
    show Go p e below T22 (mkF m 4 #[.val (.ref w_EQ), .val (.int p2), .unset] [(.int (0 : Int32))]) _
    refine X22.lookupswitchHit hx (g := (mkF m 4 #[.val (.ref w_EQ), .val (.int p2), .unset] [(.int (0 : Int32))])) rfl rfl (hb hby d1_4) (by decide) (a := 0) (off := 28) (by decide) (by show (0 : Int) ≤ ((4 : Nat) : Int) + 28; decide) _ ?_
    show Go p e below T22 (mkF m 32 #[.val (.ref w_EQ), .val (.int p2), .unset] []) _
    refine XS.iloadN X22.here hx rfl (hb hby d1_32) rfl ?_
    show Go p e below T22 (mkF m 33 #[.val (.ref w_EQ), .val (.int p2), .unset] [(.int p2)]) _
    refine XS.ifYes X22.here hx rfl (pc0 := 33) (pc' := 40) rfl (hb hby d1_33) rfl ((if0 _ _).trans (feq hp).2) (by decide) (by decide) ?_
    show Go p e below T22 (mkF m 40 #[.val (.ref w_EQ), .val (.int p2), .unset] []) _
    refine XS.iconst X22.here hx rfl (hb hby d1_40) ?_
    show Go p e below T22 (mkF m 41 #[.val (.ref w_EQ), .val (.int p2), .unset] [(.int (0 : Int32))]) _
    refine XS.istoreN X22.here hx rfl (hb hby d1_41) rfl (l' := #[.val (.ref w_EQ), .val (.int p2), .val (.int (0 : Int32))]) rfl ?_
    show Go p e below T22 (mkF m 42 #[.val (.ref w_EQ), .val (.int p2), .val (.int (0 : Int32))] []) _
    refine XS.goto X22.here hx rfl (pc0 := 42) (pc' := 68) rfl (hb hby d1_42) (by decide) (by decide) ?_
    show Go p e below T22 (mkF m 68 #[.val (.ref w_EQ), .val (.int p2), .val (.int (0 : Int32))] []) _
    refine XS.iloadN X22.here hx rfl (hb hby d1_68) rfl ?_
    exact kt)
  exact ⟨some (.int (0 : Int32)), T22, _, _, _, _, X22, by decide, by decide, nofun, q26, fun fs hr => retN X22 hx (t := .boolean) hret (by simp) (hb hby d1_69) hr, by rw [eq22]; exact ⟨rfl, N24, rfl⟩⟩
theorem d1_36 : decode prog_7_method_4_code 36 = .ok (.iconst 1, 1) := by decide +kernel
theorem d1_37 : decode prog_7_method_4_code 37 = .ok (.goto 4, 3) := by decide +kernel
def Q_rm1_EQ1 (Z : State) (p2 : Int32) (w_EQ : Addr) (w_LT : Addr) (w_GT : Addr) (h0 : Heap) (n0 : Nat) (v : Option Value) (h : Heap) (L : List Loc) : Prop := v = some (.int (1 : Int32)) ∧ Fr n0 L ∧ h = h0
theorem rm1_EQ1 (l : Launch) (Z : State) (a0 : Array Value) (hw : ∀ d ∈ tables_1, d.before a0 Z = true) (ws : List Jvm.Cond) {w_EQ : Addr} {w_LT : Addr} {w_GT : Addr} (cx : Cx Z w_EQ w_LT w_GT) (p2 : Int32) (h0 : Heap) (n0 : Nat) (O0 : Old Z n0 h0) (hp : p2 = (0 : Int32)) :
    OwnMet l (⟨"com/example/fence/fence/Filter$Op", "holds", "(I)Z"⟩ : MethodName) (Jvm.Cond.code (⟨"com/example/fence/fence/Filter$Op", "holds", "(I)Z"⟩ : MethodName) prog_7_method_4_code 3 (some .boolean) :: ws) (own_R 1 0 0 12) #[(.ref w_EQ), (.int p2)] Z h0 (Q_rm1_EQ1 Z p2 w_EQ w_LT w_GT h0 n0) := by
  refine own_body (plainFor_of_name pn_1) hisR fun p e s m below meth c s₁ hx hby hml hown hnm hret hZ X0 e0 => ?_
  have N0 := Fr.nil n0
  have pre0 : ∀ t, Go p e below s₁ (mkF m 0 #[.val (.ref w_EQ), .val (.int p2), .unset] []) t → Go p e below s₁ (entryFrame m #[(.ref w_EQ), (.int p2)] 3) t := fun t k => castTop (ef_1_RI m w_EQ p2) k
  have q21 := fun t (kt : Go p e below s₁ (mkF m 1 #[.val (.ref w_EQ), .val (.int p2), .unset] [(.ref w_EQ)]) t) => pre0 t (by
    show Go p e below s₁ (mkF m 0 #[.val (.ref w_EQ), .val (.int p2), .unset] []) _
    refine XS.aloadN X0.here hx rfl (hb hby d1_0) rfl rfl ?_
    exact kt)
  obtain ⟨cq23, kq23, q23a, q23b, q23c⟩ := isOf hZ e0 (cx.2.1.ext O0.2)
  obtain ⟨_, _, ⟨T22, L22, k22, n22⟩, -, X22, ⟨Lc22, hQ22, l22, y22, z22⟩, st22⟩ := X0.virtualBackUp hx (x := (⟨"com/example/fence/fence/Filter$Op", "ordinal", "()I"⟩ : MethodName)) (y := (⟨"java/lang/Enum", "ordinal", "()I"⟩ : MethodName)) (owner := "java/lang/Enum") hown (mvT hZ (own_w hw 8 rfl)) (mvT hZ (own_w hw 9 rfl)) (mvT hZ (own_w hw 10 rfl)) (by decide) (mvT hZ (own_w hw 12 rfl)) (mvT hZ (own_w hw 11 rfl)) (backOf (W := 0) (rm2 l Z a0 hw [] cx w_EQ (0 : Int32) h0 n0 O0 (cx.2.2.2.2.2.2.1.ext O0.2)) hZ (own_w hw 14 rfl) (own_w hw 13 rfl) (by decide) (by decide)) q23a q23c (g := (mkF m 1 #[.val (.ref w_EQ), .val (.int p2), .unset] [(.ref w_EQ)])) rfl (by rw [hml]; rfl) (Steps.refl _) (argsL := []) (rest := []) (lenOf pd_0 rfl) rfl (by show 2 * 0 + _ ≤ _; exact Nat.le_of_eq rfl) (hb hby d1_1) (fun _ _ => ⟨rfl, e0, (by decide : 0 + 0 ≤ _), (by decide : 0 + 0 ≤ _)⟩)
  dsimp only [Pt.U, Pt.locs, Pt.cells, Pt.slots] at X22 l22 y22 z22 st22 hQ22
  subst l22 y22 z22
  obtain ⟨rfl, Nq22, eq22⟩ := hQ22
  have N24 := Fr.app N0 Nq22
  have q25 := fun t (kt : Go p e below T22 (mkF m 4 #[.val (.ref w_EQ), .val (.int p2), .unset] [(.int (0 : Int32))]) t) => q21 t (st22.trans kt)
  have q26 := fun t (kt : Go p e below T22 (mkF m 69 #[.val (.ref w_EQ), .val (.int p2), .val (.int (1 : Int32))] [(.int (1 : Int32))]) t) => q25 t (by
    show Go p e below T22 (mkF m 4 #[.val (.ref w_EQ), .val (.int p2), .unset] [(.int (0 : Int32))]) _
    refine X22.lookupswitchHit hx (g := (mkF m 4 #[.val (.ref w_EQ), .val (.int p2), .unset] [(.int (0 : Int32))])) rfl rfl (hb hby d1_4) (by decide) (a := 0) (off := 28) (by decide) (by show (0 : Int) ≤ ((4 : Nat) : Int) + 28; decide) _ ?_
    show Go p e below T22 (mkF m 32 #[.val (.ref w_EQ), .val (.int p2), .unset] []) _
    refine XS.iloadN X22.here hx rfl (hb hby d1_32) rfl ?_
    show Go p e below T22 (mkF m 33 #[.val (.ref w_EQ), .val (.int p2), .unset] [(.int p2)]) _
    refine XS.ifNo X22.here hx rfl (hb hby d1_33) rfl ((if0 _ _).trans (teq hp).2) ?_
    show Go p e below T22 (mkF m 36 #[.val (.ref w_EQ), .val (.int p2), .unset] []) _
    refine XS.iconst X22.here hx rfl (hb hby d1_36) ?_
    show Go p e below T22 (mkF m 37 #[.val (.ref w_EQ), .val (.int p2), .unset] [(.int (1 : Int32))]) _
    refine XS.goto X22.here hx rfl (pc0 := 37) (pc' := 41) rfl (hb hby d1_37) (by decide) (by decide) ?_
    show Go p e below T22 (mkF m 41 #[.val (.ref w_EQ), .val (.int p2), .unset] [(.int (1 : Int32))]) _
    refine XS.istoreN X22.here hx rfl (hb hby d1_41) rfl (l' := #[.val (.ref w_EQ), .val (.int p2), .val (.int (1 : Int32))]) rfl ?_
    show Go p e below T22 (mkF m 42 #[.val (.ref w_EQ), .val (.int p2), .val (.int (1 : Int32))] []) _
    refine XS.goto X22.here hx rfl (pc0 := 42) (pc' := 68) rfl (hb hby d1_42) (by decide) (by decide) ?_
    show Go p e below T22 (mkF m 68 #[.val (.ref w_EQ), .val (.int p2), .val (.int (1 : Int32))] []) _
    refine XS.iloadN X22.here hx rfl (hb hby d1_68) rfl ?_
    exact kt)
  exact ⟨some (.int (1 : Int32)), T22, _, _, _, _, X22, by decide, by decide, nofun, q26, fun fs hr => retN X22 hx (t := .boolean) hret (by simp) (hb hby d1_69) hr, by rw [eq22]; exact ⟨rfl, N24, rfl⟩⟩
theorem d1_45 : decode prog_7_method_4_code 45 = .ok (.iload_n 1, 1) := by decide +kernel
theorem d1_46 : decode prog_7_method_4_code 46 = .ok (.ifCond .ge 7, 3) := by decide +kernel
theorem d1_53 : decode prog_7_method_4_code 53 = .ok (.iconst 0, 1) := by decide +kernel
theorem d1_54 : decode prog_7_method_4_code 54 = .ok (.istore_n 2, 1) := by decide +kernel
theorem d1_55 : decode prog_7_method_4_code 55 = .ok (.goto 13, 3) := by decide +kernel
def Q_rm1_LT0 (Z : State) (p2 : Int32) (w_EQ : Addr) (w_LT : Addr) (w_GT : Addr) (h0 : Heap) (n0 : Nat) (v : Option Value) (h : Heap) (L : List Loc) : Prop := v = some (.int (0 : Int32)) ∧ Fr n0 L ∧ h = h0
theorem rm1_LT0 (l : Launch) (Z : State) (a0 : Array Value) (hw : ∀ d ∈ tables_1, d.before a0 Z = true) (ws : List Jvm.Cond) {w_EQ : Addr} {w_LT : Addr} {w_GT : Addr} (cx : Cx Z w_EQ w_LT w_GT) (p2 : Int32) (h0 : Heap) (n0 : Nat) (O0 : Old Z n0 h0) (hp : ¬ (p2 < (0 : Int32))) :
    OwnMet l (⟨"com/example/fence/fence/Filter$Op", "holds", "(I)Z"⟩ : MethodName) (Jvm.Cond.code (⟨"com/example/fence/fence/Filter$Op", "holds", "(I)Z"⟩ : MethodName) prog_7_method_4_code 3 (some .boolean) :: ws) (own_R 1 0 0 12) #[(.ref w_LT), (.int p2)] Z h0 (Q_rm1_LT0 Z p2 w_EQ w_LT w_GT h0 n0) := by
  refine own_body (plainFor_of_name pn_1) hisR fun p e s m below meth c s₁ hx hby hml hown hnm hret hZ X0 e0 => ?_
  have N0 := Fr.nil n0
  have pre0 : ∀ t, Go p e below s₁ (mkF m 0 #[.val (.ref w_LT), .val (.int p2), .unset] []) t → Go p e below s₁ (entryFrame m #[(.ref w_LT), (.int p2)] 3) t := fun t k => castTop (ef_1_RI m w_LT p2) k
  have q21 := fun t (kt : Go p e below s₁ (mkF m 1 #[.val (.ref w_LT), .val (.int p2), .unset] [(.ref w_LT)]) t) => pre0 t (by
    show Go p e below s₁ (mkF m 0 #[.val (.ref w_LT), .val (.int p2), .unset] []) _
    refine XS.aloadN X0.here hx rfl (hb hby d1_0) rfl rfl ?_
    exact kt)
  obtain ⟨cq23, kq23, q23a, q23b, q23c⟩ := isOf hZ e0 (cx.2.2.2.1.ext O0.2)
  obtain ⟨_, _, ⟨T22, L22, k22, n22⟩, -, X22, ⟨Lc22, hQ22, l22, y22, z22⟩, st22⟩ := X0.virtualBackUp hx (x := (⟨"com/example/fence/fence/Filter$Op", "ordinal", "()I"⟩ : MethodName)) (y := (⟨"java/lang/Enum", "ordinal", "()I"⟩ : MethodName)) (owner := "java/lang/Enum") hown (mvT hZ (own_w hw 8 rfl)) (mvT hZ (own_w hw 9 rfl)) (mvT hZ (own_w hw 10 rfl)) (by decide) (mvT hZ (own_w hw 12 rfl)) (mvT hZ (own_w hw 11 rfl)) (backOf (W := 0) (rm2 l Z a0 hw [] cx w_LT (1 : Int32) h0 n0 O0 (cx.2.2.2.2.2.2.2.1.ext O0.2)) hZ (own_w hw 14 rfl) (own_w hw 13 rfl) (by decide) (by decide)) q23a q23c (g := (mkF m 1 #[.val (.ref w_LT), .val (.int p2), .unset] [(.ref w_LT)])) rfl (by rw [hml]; rfl) (Steps.refl _) (argsL := []) (rest := []) (lenOf pd_0 rfl) rfl (by show 2 * 0 + _ ≤ _; exact Nat.le_of_eq rfl) (hb hby d1_1) (fun _ _ => ⟨rfl, e0, (by decide : 0 + 0 ≤ _), (by decide : 0 + 0 ≤ _)⟩)
  dsimp only [Pt.U, Pt.locs, Pt.cells, Pt.slots] at X22 l22 y22 z22 st22 hQ22
  subst l22 y22 z22
  obtain ⟨rfl, Nq22, eq22⟩ := hQ22
  have N24 := Fr.app N0 Nq22
  have q25 := fun t (kt : Go p e below T22 (mkF m 4 #[.val (.ref w_LT), .val (.int p2), .unset] [(.int (1 : Int32))]) t) => q21 t (st22.trans kt)
  have q26 := fun t (kt : Go p e below T22 (mkF m 69 #[.val (.ref w_LT), .val (.int p2), .val (.int (0 : Int32))] [(.int (0 : Int32))]) t) => q25 t (by
    show Go p e below T22 (mkF m 4 #[.val (.ref w_LT), .val (.int p2), .unset] [(.int (1 : Int32))]) _
    refine X22.lookupswitchHit hx (g := (mkF m 4 #[.val (.ref w_LT), .val (.int p2), .unset] [(.int (1 : Int32))])) rfl rfl (hb hby d1_4) (by decide) (a := 1) (off := 41) (by decide) (by show (0 : Int) ≤ ((4 : Nat) : Int) + 41; decide) _ ?_
    show Go p e below T22 (mkF m 45 #[.val (.ref w_LT), .val (.int p2), .unset] []) _
    refine XS.iloadN X22.here hx rfl (hb hby d1_45) rfl ?_
    show Go p e below T22 (mkF m 46 #[.val (.ref w_LT), .val (.int p2), .unset] [(.int p2)]) _
    refine XS.ifYes X22.here hx rfl (pc0 := 46) (pc' := 53) rfl (hb hby d1_46) rfl ((if0 _ _).trans (flt hp).2.1) (by decide) (by decide) ?_
    show Go p e below T22 (mkF m 53 #[.val (.ref w_LT), .val (.int p2), .unset] []) _
    refine XS.iconst X22.here hx rfl (hb hby d1_53) ?_
    show Go p e below T22 (mkF m 54 #[.val (.ref w_LT), .val (.int p2), .unset] [(.int (0 : Int32))]) _
    refine XS.istoreN X22.here hx rfl (hb hby d1_54) rfl (l' := #[.val (.ref w_LT), .val (.int p2), .val (.int (0 : Int32))]) rfl ?_
    show Go p e below T22 (mkF m 55 #[.val (.ref w_LT), .val (.int p2), .val (.int (0 : Int32))] []) _
    refine XS.goto X22.here hx rfl (pc0 := 55) (pc' := 68) rfl (hb hby d1_55) (by decide) (by decide) ?_
    show Go p e below T22 (mkF m 68 #[.val (.ref w_LT), .val (.int p2), .val (.int (0 : Int32))] []) _
    refine XS.iloadN X22.here hx rfl (hb hby d1_68) rfl ?_
    exact kt)
  exact ⟨some (.int (0 : Int32)), T22, _, _, _, _, X22, by decide, by decide, nofun, q26, fun fs hr => retN X22 hx (t := .boolean) hret (by simp) (hb hby d1_69) hr, by rw [eq22]; exact ⟨rfl, N24, rfl⟩⟩
theorem d1_49 : decode prog_7_method_4_code 49 = .ok (.iconst 1, 1) := by decide +kernel
theorem d1_50 : decode prog_7_method_4_code 50 = .ok (.goto 4, 3) := by decide +kernel
def Q_rm1_LT1 (Z : State) (p2 : Int32) (w_EQ : Addr) (w_LT : Addr) (w_GT : Addr) (h0 : Heap) (n0 : Nat) (v : Option Value) (h : Heap) (L : List Loc) : Prop := v = some (.int (1 : Int32)) ∧ Fr n0 L ∧ h = h0
theorem rm1_LT1 (l : Launch) (Z : State) (a0 : Array Value) (hw : ∀ d ∈ tables_1, d.before a0 Z = true) (ws : List Jvm.Cond) {w_EQ : Addr} {w_LT : Addr} {w_GT : Addr} (cx : Cx Z w_EQ w_LT w_GT) (p2 : Int32) (h0 : Heap) (n0 : Nat) (O0 : Old Z n0 h0) (hp : p2 < (0 : Int32)) :
    OwnMet l (⟨"com/example/fence/fence/Filter$Op", "holds", "(I)Z"⟩ : MethodName) (Jvm.Cond.code (⟨"com/example/fence/fence/Filter$Op", "holds", "(I)Z"⟩ : MethodName) prog_7_method_4_code 3 (some .boolean) :: ws) (own_R 1 0 0 12) #[(.ref w_LT), (.int p2)] Z h0 (Q_rm1_LT1 Z p2 w_EQ w_LT w_GT h0 n0) := by
  refine own_body (plainFor_of_name pn_1) hisR fun p e s m below meth c s₁ hx hby hml hown hnm hret hZ X0 e0 => ?_
  have N0 := Fr.nil n0
  have pre0 : ∀ t, Go p e below s₁ (mkF m 0 #[.val (.ref w_LT), .val (.int p2), .unset] []) t → Go p e below s₁ (entryFrame m #[(.ref w_LT), (.int p2)] 3) t := fun t k => castTop (ef_1_RI m w_LT p2) k
  have q21 := fun t (kt : Go p e below s₁ (mkF m 1 #[.val (.ref w_LT), .val (.int p2), .unset] [(.ref w_LT)]) t) => pre0 t (by
    show Go p e below s₁ (mkF m 0 #[.val (.ref w_LT), .val (.int p2), .unset] []) _
    refine XS.aloadN X0.here hx rfl (hb hby d1_0) rfl rfl ?_
    exact kt)
  obtain ⟨cq23, kq23, q23a, q23b, q23c⟩ := isOf hZ e0 (cx.2.2.2.1.ext O0.2)
  obtain ⟨_, _, ⟨T22, L22, k22, n22⟩, -, X22, ⟨Lc22, hQ22, l22, y22, z22⟩, st22⟩ := X0.virtualBackUp hx (x := (⟨"com/example/fence/fence/Filter$Op", "ordinal", "()I"⟩ : MethodName)) (y := (⟨"java/lang/Enum", "ordinal", "()I"⟩ : MethodName)) (owner := "java/lang/Enum") hown (mvT hZ (own_w hw 8 rfl)) (mvT hZ (own_w hw 9 rfl)) (mvT hZ (own_w hw 10 rfl)) (by decide) (mvT hZ (own_w hw 12 rfl)) (mvT hZ (own_w hw 11 rfl)) (backOf (W := 0) (rm2 l Z a0 hw [] cx w_LT (1 : Int32) h0 n0 O0 (cx.2.2.2.2.2.2.2.1.ext O0.2)) hZ (own_w hw 14 rfl) (own_w hw 13 rfl) (by decide) (by decide)) q23a q23c (g := (mkF m 1 #[.val (.ref w_LT), .val (.int p2), .unset] [(.ref w_LT)])) rfl (by rw [hml]; rfl) (Steps.refl _) (argsL := []) (rest := []) (lenOf pd_0 rfl) rfl (by show 2 * 0 + _ ≤ _; exact Nat.le_of_eq rfl) (hb hby d1_1) (fun _ _ => ⟨rfl, e0, (by decide : 0 + 0 ≤ _), (by decide : 0 + 0 ≤ _)⟩)
  dsimp only [Pt.U, Pt.locs, Pt.cells, Pt.slots] at X22 l22 y22 z22 st22 hQ22
  subst l22 y22 z22
  obtain ⟨rfl, Nq22, eq22⟩ := hQ22
  have N24 := Fr.app N0 Nq22
  have q25 := fun t (kt : Go p e below T22 (mkF m 4 #[.val (.ref w_LT), .val (.int p2), .unset] [(.int (1 : Int32))]) t) => q21 t (st22.trans kt)
  have q26 := fun t (kt : Go p e below T22 (mkF m 69 #[.val (.ref w_LT), .val (.int p2), .val (.int (1 : Int32))] [(.int (1 : Int32))]) t) => q25 t (by
    show Go p e below T22 (mkF m 4 #[.val (.ref w_LT), .val (.int p2), .unset] [(.int (1 : Int32))]) _
    refine X22.lookupswitchHit hx (g := (mkF m 4 #[.val (.ref w_LT), .val (.int p2), .unset] [(.int (1 : Int32))])) rfl rfl (hb hby d1_4) (by decide) (a := 1) (off := 41) (by decide) (by show (0 : Int) ≤ ((4 : Nat) : Int) + 41; decide) _ ?_
    show Go p e below T22 (mkF m 45 #[.val (.ref w_LT), .val (.int p2), .unset] []) _
    refine XS.iloadN X22.here hx rfl (hb hby d1_45) rfl ?_
    show Go p e below T22 (mkF m 46 #[.val (.ref w_LT), .val (.int p2), .unset] [(.int p2)]) _
    refine XS.ifNo X22.here hx rfl (hb hby d1_46) rfl ((if0 _ _).trans (tlt hp).2.1) ?_
    show Go p e below T22 (mkF m 49 #[.val (.ref w_LT), .val (.int p2), .unset] []) _
    refine XS.iconst X22.here hx rfl (hb hby d1_49) ?_
    show Go p e below T22 (mkF m 50 #[.val (.ref w_LT), .val (.int p2), .unset] [(.int (1 : Int32))]) _
    refine XS.goto X22.here hx rfl (pc0 := 50) (pc' := 54) rfl (hb hby d1_50) (by decide) (by decide) ?_
    show Go p e below T22 (mkF m 54 #[.val (.ref w_LT), .val (.int p2), .unset] [(.int (1 : Int32))]) _
    refine XS.istoreN X22.here hx rfl (hb hby d1_54) rfl (l' := #[.val (.ref w_LT), .val (.int p2), .val (.int (1 : Int32))]) rfl ?_
    show Go p e below T22 (mkF m 55 #[.val (.ref w_LT), .val (.int p2), .val (.int (1 : Int32))] []) _
    refine XS.goto X22.here hx rfl (pc0 := 55) (pc' := 68) rfl (hb hby d1_55) (by decide) (by decide) ?_
    show Go p e below T22 (mkF m 68 #[.val (.ref w_LT), .val (.int p2), .val (.int (1 : Int32))] []) _
    refine XS.iloadN X22.here hx rfl (hb hby d1_68) rfl ?_
    exact kt)
  exact ⟨some (.int (1 : Int32)), T22, _, _, _, _, X22, by decide, by decide, nofun, q26, fun fs hr => retN X22 hx (t := .boolean) hret (by simp) (hb hby d1_69) hr, by rw [eq22]; exact ⟨rfl, N24, rfl⟩⟩
theorem d1_58 : decode prog_7_method_4_code 58 = .ok (.iload_n 1, 1) := by decide +kernel
theorem d1_59 : decode prog_7_method_4_code 59 = .ok (.ifCond .le 7, 3) := by decide +kernel
theorem d1_66 : decode prog_7_method_4_code 66 = .ok (.iconst 0, 1) := by decide +kernel
theorem d1_67 : decode prog_7_method_4_code 67 = .ok (.istore_n 2, 1) := by decide +kernel
def Q_rm1_GT0 (Z : State) (p2 : Int32) (w_EQ : Addr) (w_LT : Addr) (w_GT : Addr) (h0 : Heap) (n0 : Nat) (v : Option Value) (h : Heap) (L : List Loc) : Prop := v = some (.int (0 : Int32)) ∧ Fr n0 L ∧ h = h0
theorem rm1_GT0 (l : Launch) (Z : State) (a0 : Array Value) (hw : ∀ d ∈ tables_1, d.before a0 Z = true) (ws : List Jvm.Cond) {w_EQ : Addr} {w_LT : Addr} {w_GT : Addr} (cx : Cx Z w_EQ w_LT w_GT) (p2 : Int32) (h0 : Heap) (n0 : Nat) (O0 : Old Z n0 h0) (hp : ¬ ((0 : Int32) < p2)) :
    OwnMet l (⟨"com/example/fence/fence/Filter$Op", "holds", "(I)Z"⟩ : MethodName) (Jvm.Cond.code (⟨"com/example/fence/fence/Filter$Op", "holds", "(I)Z"⟩ : MethodName) prog_7_method_4_code 3 (some .boolean) :: ws) (own_R 1 0 0 12) #[(.ref w_GT), (.int p2)] Z h0 (Q_rm1_GT0 Z p2 w_EQ w_LT w_GT h0 n0) := by
  refine own_body (plainFor_of_name pn_1) hisR fun p e s m below meth c s₁ hx hby hml hown hnm hret hZ X0 e0 => ?_
  have N0 := Fr.nil n0
  have pre0 : ∀ t, Go p e below s₁ (mkF m 0 #[.val (.ref w_GT), .val (.int p2), .unset] []) t → Go p e below s₁ (entryFrame m #[(.ref w_GT), (.int p2)] 3) t := fun t k => castTop (ef_1_RI m w_GT p2) k
  have q21 := fun t (kt : Go p e below s₁ (mkF m 1 #[.val (.ref w_GT), .val (.int p2), .unset] [(.ref w_GT)]) t) => pre0 t (by
    show Go p e below s₁ (mkF m 0 #[.val (.ref w_GT), .val (.int p2), .unset] []) _
    refine XS.aloadN X0.here hx rfl (hb hby d1_0) rfl rfl ?_
    exact kt)
  obtain ⟨cq23, kq23, q23a, q23b, q23c⟩ := isOf hZ e0 (cx.2.2.2.2.2.1.ext O0.2)
  obtain ⟨_, _, ⟨T22, L22, k22, n22⟩, -, X22, ⟨Lc22, hQ22, l22, y22, z22⟩, st22⟩ := X0.virtualBackUp hx (x := (⟨"com/example/fence/fence/Filter$Op", "ordinal", "()I"⟩ : MethodName)) (y := (⟨"java/lang/Enum", "ordinal", "()I"⟩ : MethodName)) (owner := "java/lang/Enum") hown (mvT hZ (own_w hw 8 rfl)) (mvT hZ (own_w hw 9 rfl)) (mvT hZ (own_w hw 10 rfl)) (by decide) (mvT hZ (own_w hw 12 rfl)) (mvT hZ (own_w hw 11 rfl)) (backOf (W := 0) (rm2 l Z a0 hw [] cx w_GT (2 : Int32) h0 n0 O0 (cx.2.2.2.2.2.2.2.2.ext O0.2)) hZ (own_w hw 14 rfl) (own_w hw 13 rfl) (by decide) (by decide)) q23a q23c (g := (mkF m 1 #[.val (.ref w_GT), .val (.int p2), .unset] [(.ref w_GT)])) rfl (by rw [hml]; rfl) (Steps.refl _) (argsL := []) (rest := []) (lenOf pd_0 rfl) rfl (by show 2 * 0 + _ ≤ _; exact Nat.le_of_eq rfl) (hb hby d1_1) (fun _ _ => ⟨rfl, e0, (by decide : 0 + 0 ≤ _), (by decide : 0 + 0 ≤ _)⟩)
  dsimp only [Pt.U, Pt.locs, Pt.cells, Pt.slots] at X22 l22 y22 z22 st22 hQ22
  subst l22 y22 z22
  obtain ⟨rfl, Nq22, eq22⟩ := hQ22
  have N24 := Fr.app N0 Nq22
  have q25 := fun t (kt : Go p e below T22 (mkF m 4 #[.val (.ref w_GT), .val (.int p2), .unset] [(.int (2 : Int32))]) t) => q21 t (st22.trans kt)
  have q26 := fun t (kt : Go p e below T22 (mkF m 69 #[.val (.ref w_GT), .val (.int p2), .val (.int (0 : Int32))] [(.int (0 : Int32))]) t) => q25 t (by
    show Go p e below T22 (mkF m 4 #[.val (.ref w_GT), .val (.int p2), .unset] [(.int (2 : Int32))]) _
    refine X22.lookupswitchMiss hx (g := (mkF m 4 #[.val (.ref w_GT), .val (.int p2), .unset] [(.int (2 : Int32))])) rfl rfl (hb hby d1_4) (by decide) (by decide) (by show (0 : Int) ≤ ((4 : Nat) : Int) + 54; decide) _ ?_
    show Go p e below T22 (mkF m 58 #[.val (.ref w_GT), .val (.int p2), .unset] []) _
    refine XS.iloadN X22.here hx rfl (hb hby d1_58) rfl ?_
    show Go p e below T22 (mkF m 59 #[.val (.ref w_GT), .val (.int p2), .unset] [(.int p2)]) _
    refine XS.ifYes X22.here hx rfl (pc0 := 59) (pc' := 66) rfl (hb hby d1_59) rfl ((if0 _ _).trans (flt hp).2.2.2) (by decide) (by decide) ?_
    show Go p e below T22 (mkF m 66 #[.val (.ref w_GT), .val (.int p2), .unset] []) _
    refine XS.iconst X22.here hx rfl (hb hby d1_66) ?_
    show Go p e below T22 (mkF m 67 #[.val (.ref w_GT), .val (.int p2), .unset] [(.int (0 : Int32))]) _
    refine XS.istoreN X22.here hx rfl (hb hby d1_67) rfl (l' := #[.val (.ref w_GT), .val (.int p2), .val (.int (0 : Int32))]) rfl ?_
    show Go p e below T22 (mkF m 68 #[.val (.ref w_GT), .val (.int p2), .val (.int (0 : Int32))] []) _
    refine XS.iloadN X22.here hx rfl (hb hby d1_68) rfl ?_
    exact kt)
  exact ⟨some (.int (0 : Int32)), T22, _, _, _, _, X22, by decide, by decide, nofun, q26, fun fs hr => retN X22 hx (t := .boolean) hret (by simp) (hb hby d1_69) hr, by rw [eq22]; exact ⟨rfl, N24, rfl⟩⟩
theorem d1_62 : decode prog_7_method_4_code 62 = .ok (.iconst 1, 1) := by decide +kernel
theorem d1_63 : decode prog_7_method_4_code 63 = .ok (.goto 4, 3) := by decide +kernel
def Q_rm1_GT1 (Z : State) (p2 : Int32) (w_EQ : Addr) (w_LT : Addr) (w_GT : Addr) (h0 : Heap) (n0 : Nat) (v : Option Value) (h : Heap) (L : List Loc) : Prop := v = some (.int (1 : Int32)) ∧ Fr n0 L ∧ h = h0
theorem rm1_GT1 (l : Launch) (Z : State) (a0 : Array Value) (hw : ∀ d ∈ tables_1, d.before a0 Z = true) (ws : List Jvm.Cond) {w_EQ : Addr} {w_LT : Addr} {w_GT : Addr} (cx : Cx Z w_EQ w_LT w_GT) (p2 : Int32) (h0 : Heap) (n0 : Nat) (O0 : Old Z n0 h0) (hp : (0 : Int32) < p2) :
    OwnMet l (⟨"com/example/fence/fence/Filter$Op", "holds", "(I)Z"⟩ : MethodName) (Jvm.Cond.code (⟨"com/example/fence/fence/Filter$Op", "holds", "(I)Z"⟩ : MethodName) prog_7_method_4_code 3 (some .boolean) :: ws) (own_R 1 0 0 12) #[(.ref w_GT), (.int p2)] Z h0 (Q_rm1_GT1 Z p2 w_EQ w_LT w_GT h0 n0) := by
  refine own_body (plainFor_of_name pn_1) hisR fun p e s m below meth c s₁ hx hby hml hown hnm hret hZ X0 e0 => ?_
  have N0 := Fr.nil n0
  have pre0 : ∀ t, Go p e below s₁ (mkF m 0 #[.val (.ref w_GT), .val (.int p2), .unset] []) t → Go p e below s₁ (entryFrame m #[(.ref w_GT), (.int p2)] 3) t := fun t k => castTop (ef_1_RI m w_GT p2) k
  have q21 := fun t (kt : Go p e below s₁ (mkF m 1 #[.val (.ref w_GT), .val (.int p2), .unset] [(.ref w_GT)]) t) => pre0 t (by
    show Go p e below s₁ (mkF m 0 #[.val (.ref w_GT), .val (.int p2), .unset] []) _
    refine XS.aloadN X0.here hx rfl (hb hby d1_0) rfl rfl ?_
    exact kt)
  obtain ⟨cq23, kq23, q23a, q23b, q23c⟩ := isOf hZ e0 (cx.2.2.2.2.2.1.ext O0.2)
  obtain ⟨_, _, ⟨T22, L22, k22, n22⟩, -, X22, ⟨Lc22, hQ22, l22, y22, z22⟩, st22⟩ := X0.virtualBackUp hx (x := (⟨"com/example/fence/fence/Filter$Op", "ordinal", "()I"⟩ : MethodName)) (y := (⟨"java/lang/Enum", "ordinal", "()I"⟩ : MethodName)) (owner := "java/lang/Enum") hown (mvT hZ (own_w hw 8 rfl)) (mvT hZ (own_w hw 9 rfl)) (mvT hZ (own_w hw 10 rfl)) (by decide) (mvT hZ (own_w hw 12 rfl)) (mvT hZ (own_w hw 11 rfl)) (backOf (W := 0) (rm2 l Z a0 hw [] cx w_GT (2 : Int32) h0 n0 O0 (cx.2.2.2.2.2.2.2.2.ext O0.2)) hZ (own_w hw 14 rfl) (own_w hw 13 rfl) (by decide) (by decide)) q23a q23c (g := (mkF m 1 #[.val (.ref w_GT), .val (.int p2), .unset] [(.ref w_GT)])) rfl (by rw [hml]; rfl) (Steps.refl _) (argsL := []) (rest := []) (lenOf pd_0 rfl) rfl (by show 2 * 0 + _ ≤ _; exact Nat.le_of_eq rfl) (hb hby d1_1) (fun _ _ => ⟨rfl, e0, (by decide : 0 + 0 ≤ _), (by decide : 0 + 0 ≤ _)⟩)
  dsimp only [Pt.U, Pt.locs, Pt.cells, Pt.slots] at X22 l22 y22 z22 st22 hQ22
  subst l22 y22 z22
  obtain ⟨rfl, Nq22, eq22⟩ := hQ22
  have N24 := Fr.app N0 Nq22
  have q25 := fun t (kt : Go p e below T22 (mkF m 4 #[.val (.ref w_GT), .val (.int p2), .unset] [(.int (2 : Int32))]) t) => q21 t (st22.trans kt)
  have q26 := fun t (kt : Go p e below T22 (mkF m 69 #[.val (.ref w_GT), .val (.int p2), .val (.int (1 : Int32))] [(.int (1 : Int32))]) t) => q25 t (by
    show Go p e below T22 (mkF m 4 #[.val (.ref w_GT), .val (.int p2), .unset] [(.int (2 : Int32))]) _
    refine X22.lookupswitchMiss hx (g := (mkF m 4 #[.val (.ref w_GT), .val (.int p2), .unset] [(.int (2 : Int32))])) rfl rfl (hb hby d1_4) (by decide) (by decide) (by show (0 : Int) ≤ ((4 : Nat) : Int) + 54; decide) _ ?_
    show Go p e below T22 (mkF m 58 #[.val (.ref w_GT), .val (.int p2), .unset] []) _
    refine XS.iloadN X22.here hx rfl (hb hby d1_58) rfl ?_
    show Go p e below T22 (mkF m 59 #[.val (.ref w_GT), .val (.int p2), .unset] [(.int p2)]) _
    refine XS.ifNo X22.here hx rfl (hb hby d1_59) rfl ((if0 _ _).trans (tlt hp).2.2.2) ?_
    show Go p e below T22 (mkF m 62 #[.val (.ref w_GT), .val (.int p2), .unset] []) _
    refine XS.iconst X22.here hx rfl (hb hby d1_62) ?_
    show Go p e below T22 (mkF m 63 #[.val (.ref w_GT), .val (.int p2), .unset] [(.int (1 : Int32))]) _
    refine XS.goto X22.here hx rfl (pc0 := 63) (pc' := 67) rfl (hb hby d1_63) (by decide) (by decide) ?_
    show Go p e below T22 (mkF m 67 #[.val (.ref w_GT), .val (.int p2), .unset] [(.int (1 : Int32))]) _
    refine XS.istoreN X22.here hx rfl (hb hby d1_67) rfl (l' := #[.val (.ref w_GT), .val (.int p2), .val (.int (1 : Int32))]) rfl ?_
    show Go p e below T22 (mkF m 68 #[.val (.ref w_GT), .val (.int p2), .val (.int (1 : Int32))] []) _
    refine XS.iloadN X22.here hx rfl (hb hby d1_68) rfl ?_
    exact kt)
  exact ⟨some (.int (1 : Int32)), T22, _, _, _, _, X22, by decide, by decide, nofun, q26, fun fs hr => retN X22 hx (t := .boolean) hret (by simp) (hb hby d1_69) hr, by rw [eq22]; exact ⟨rfl, N24, rfl⟩⟩
theorem ef_0_I (m : MethodId) (x0 : Int32) : entryFrame m #[(.int x0)] maxLocals = mkF m 0 #[.val (.int x0), .unset, .unset, .unset, .unset, .unset, .unset, .unset] [] := by first | (simp [entryFrame, mkF, argsToLocals, Value.category, maxLocals]; done) | rfl
theorem pn_0 : plainName "com/example/fence/fence/OpHoldsPinLaw" = true := by first | (simp [plainName, overriddenIn]; done) | decide +kernel
theorem pd_1 : parseMethodDescriptor "(I)Z" = some ⟨[.int], some .boolean⟩ := by decide +kernel
def Q_rm0 (Z : State) (p1 : Int32) (w_EQ : Addr) (w_LT : Addr) (w_GT : Addr) (h0 : Heap) (n0 : Nat) (v : Option Value) (h : Heap) (L : List Loc) : Prop := v = some (.int (1 : Int32)) ∧ Fr n0 L
theorem rm0 (l : Launch) (Z : State) (a0 : Array Value) (hw : ∀ d ∈ tables_1, d.before a0 Z = true) (ws : List Jvm.Cond) {w_EQ : Addr} {w_LT : Addr} {w_GT : Addr} (cx : Cx Z w_EQ w_LT w_GT) (p1 : Int32) (h0 : Heap) (n0 : Nat) (O0 : Old Z n0 h0) :
    OwnMet l x (Jvm.Cond.code x code maxLocals ret :: ws) room_1 #[(.int p1)] Z h0 (Q_rm0 Z p1 w_EQ w_LT w_GT h0 n0) := by
  refine own_body (plainFor_of_name pn_0) hisR fun p e s m below meth c s₁ hx hby hml hown hnm hret hZ X0 e0 => ?_
  have N0 := Fr.nil n0
  have pre0 : ∀ t, Go p e below s₁ (mkF m 0 #[.val (.int p1), .unset, .unset, .unset, .unset, .unset, .unset, .unset] []) t → Go p e below s₁ (entryFrame m #[(.int p1)] maxLocals) t := fun t k => castTop (ef_0_I m p1) k
  rcases own_tri p1 with ⟨ha, hb', hc'⟩ | ⟨ha, hb', hc'⟩ | ⟨ha, hb', hc'⟩
  · skip
    obtain ⟨T21, X21, e21, st21⟩ := getS2 X0 hx hZ hown (host := "") (Or.inl (own_w hw 0 rfl)) Via.refl e0 (cx.1.ext O0.2) (g := (mkF m 0 #[.val (.int p1), .unset, .unset, .unset, .unset, .unset, .unset, .unset] [])) rfl (hb hby at_0)
    have q22 := fun t (kt : Go p e below T21 (mkF m 3 #[.val (.int p1), .unset, .unset, .unset, .unset, .unset, .unset, .unset] [(.ref w_EQ)]) t) => pre0 t (st21 t kt)
    have q23 := fun t (kt : Go p e below T21 (mkF m 4 #[.val (.int p1), .unset, .unset, .unset, .unset, .unset, .unset, .unset] [(.int p1), (.ref w_EQ)]) t) => q22 t (by
      show Go p e below T21 (mkF m 3 #[.val (.int p1), .unset, .unset, .unset, .unset, .unset, .unset, .unset] [(.ref w_EQ)]) _
      refine XS.iloadN X21.here hx rfl (hb hby at_3) rfl ?_
      exact kt)
    obtain ⟨cq25, kq25, q25a, q25b, q25c⟩ := isOf hZ e21 (cx.2.1.ext O0.2)
    obtain ⟨_, _, ⟨T24, L24, k24, n24⟩, -, X24, ⟨Lc24, hQ24, l24, y24, z24⟩, st24⟩ := X21.virtualBack hx (y := (⟨"com/example/fence/fence/Filter$Op", "holds", "(I)Z"⟩ : MethodName)) (z := (⟨"com/example/fence/fence/Filter$Op", "holds", "(I)Z"⟩ : MethodName)) hown (mvT hZ (own_w hw 3 rfl)) (mvT hZ (own_w hw 4 rfl)) (notFace_of_selects (args := #[]) (mvT hZ (own_w hw 6 rfl))) (mvT hZ (own_w hw 6 rfl)) (mvT hZ (own_w hw 5 rfl)) (by decide) (backOf (W := 0) (rm1_EQ0 l Z a0 hw [] cx p1 h0 n0 O0 hb') hZ (own_w hw 7 rfl) (own_w hw 1 rfl) (by decide) (by decide)) q25a q25c (g := (mkF m 4 #[.val (.int p1), .unset, .unset, .unset, .unset, .unset, .unset, .unset] [(.int p1), (.ref w_EQ)])) rfl (by rw [hml]; rfl) (Steps.refl _) (argsL := [(.int p1)]) (rest := []) (lenOf pd_1 rfl) rfl (by show 2 * 0 + _ ≤ _; exact Nat.le_of_eq rfl) (hb hby at_4) (fun _ _ => ⟨rfl, e21, (by decide : 0 + 0 ≤ _), (by decide : 0 + 0 ≤ _)⟩)
    dsimp only [Pt.U, Pt.locs, Pt.cells, Pt.slots] at X24 l24 y24 z24 st24 hQ24
    subst l24 y24 z24
    obtain ⟨rfl, Nq24, eq24⟩ := hQ24
    have N26 := Fr.app N0 Nq24
    have q27 := fun t (kt : Go p e below T24 (mkF m 7 #[.val (.int p1), .unset, .unset, .unset, .unset, .unset, .unset, .unset] [(.int (0 : Int32))]) t) => q23 t (st24.trans kt)
    have q28 := fun t (kt : Go p e below T24 (mkF m 8 #[.val (.int p1), .val (.int (0 : Int32)), .unset, .unset, .unset, .unset, .unset, .unset] []) t) => q27 t (by
      show Go p e below T24 (mkF m 7 #[.val (.int p1), .unset, .unset, .unset, .unset, .unset, .unset, .unset] [(.int (0 : Int32))]) _
      refine XS.istoreN X24.here hx rfl (hb hby at_7) rfl (l' := #[.val (.int p1), .val (.int (0 : Int32)), .unset, .unset, .unset, .unset, .unset, .unset]) rfl ?_
      exact kt)
    obtain ⟨T29, X29, e29, st29⟩ := getS2 X24 hx hZ hown (host := "") (Or.inl (own_w hw 17 rfl)) Via.refl eq24 (cx.2.2.1.ext O0.2) (g := (mkF m 8 #[.val (.int p1), .val (.int (0 : Int32)), .unset, .unset, .unset, .unset, .unset, .unset] [])) rfl (hb hby at_8)
    have q30 := fun t (kt : Go p e below T29 (mkF m 11 #[.val (.int p1), .val (.int (0 : Int32)), .unset, .unset, .unset, .unset, .unset, .unset] [(.ref w_LT)]) t) => q28 t (st29 t kt)
    have q31 := fun t (kt : Go p e below T29 (mkF m 12 #[.val (.int p1), .val (.int (0 : Int32)), .unset, .unset, .unset, .unset, .unset, .unset] [(.int p1), (.ref w_LT)]) t) => q30 t (by
      show Go p e below T29 (mkF m 11 #[.val (.int p1), .val (.int (0 : Int32)), .unset, .unset, .unset, .unset, .unset, .unset] [(.ref w_LT)]) _
      refine XS.iloadN X29.here hx rfl (hb hby at_11) rfl ?_
      exact kt)
    obtain ⟨cq33, kq33, q33a, q33b, q33c⟩ := isOf hZ e29 (cx.2.2.2.1.ext O0.2)
    obtain ⟨_, _, ⟨T32, L32, k32, n32⟩, -, X32, ⟨Lc32, hQ32, l32, y32, z32⟩, st32⟩ := X29.virtualBack hx (y := (⟨"com/example/fence/fence/Filter$Op", "holds", "(I)Z"⟩ : MethodName)) (z := (⟨"com/example/fence/fence/Filter$Op", "holds", "(I)Z"⟩ : MethodName)) hown (mvT hZ (own_w hw 3 rfl)) (mvT hZ (own_w hw 4 rfl)) (notFace_of_selects (args := #[]) (mvT hZ (own_w hw 6 rfl))) (mvT hZ (own_w hw 6 rfl)) (mvT hZ (own_w hw 5 rfl)) (by decide) (backOf (W := 0) (rm1_LT1 l Z a0 hw [] cx p1 h0 n0 O0 ha) hZ (own_w hw 7 rfl) (own_w hw 1 rfl) (by decide) (by decide)) q33a q33c (g := (mkF m 12 #[.val (.int p1), .val (.int (0 : Int32)), .unset, .unset, .unset, .unset, .unset, .unset] [(.int p1), (.ref w_LT)])) rfl (by rw [hml]; rfl) (Steps.refl _) (argsL := [(.int p1)]) (rest := []) (lenOf pd_1 rfl) rfl (by show 2 * 0 + _ ≤ _; exact Nat.le_of_eq rfl) (hb hby at_12) (fun _ _ => ⟨rfl, e29, (by decide : 0 + 0 ≤ _), (by decide : 0 + 0 ≤ _)⟩)
    dsimp only [Pt.U, Pt.locs, Pt.cells, Pt.slots] at X32 l32 y32 z32 st32 hQ32
    subst l32 y32 z32
    obtain ⟨rfl, Nq32, eq32⟩ := hQ32
    have N34 := Fr.app N26 Nq32
    have q35 := fun t (kt : Go p e below T32 (mkF m 15 #[.val (.int p1), .val (.int (0 : Int32)), .unset, .unset, .unset, .unset, .unset, .unset] [(.int (1 : Int32))]) t) => q31 t (st32.trans kt)
    have q36 := fun t (kt : Go p e below T32 (mkF m 16 #[.val (.int p1), .val (.int (0 : Int32)), .val (.int (1 : Int32)), .unset, .unset, .unset, .unset, .unset] []) t) => q35 t (by
      show Go p e below T32 (mkF m 15 #[.val (.int p1), .val (.int (0 : Int32)), .unset, .unset, .unset, .unset, .unset, .unset] [(.int (1 : Int32))]) _
      refine XS.istoreN X32.here hx rfl (hb hby at_15) rfl (l' := #[.val (.int p1), .val (.int (0 : Int32)), .val (.int (1 : Int32)), .unset, .unset, .unset, .unset, .unset]) rfl ?_
      exact kt)
    obtain ⟨T37, X37, e37, st37⟩ := getS2 X32 hx hZ hown (host := "") (Or.inl (own_w hw 19 rfl)) Via.refl eq32 (cx.2.2.2.2.1.ext O0.2) (g := (mkF m 16 #[.val (.int p1), .val (.int (0 : Int32)), .val (.int (1 : Int32)), .unset, .unset, .unset, .unset, .unset] [])) rfl (hb hby at_16)
    have q38 := fun t (kt : Go p e below T37 (mkF m 19 #[.val (.int p1), .val (.int (0 : Int32)), .val (.int (1 : Int32)), .unset, .unset, .unset, .unset, .unset] [(.ref w_GT)]) t) => q36 t (st37 t kt)
    have q39 := fun t (kt : Go p e below T37 (mkF m 20 #[.val (.int p1), .val (.int (0 : Int32)), .val (.int (1 : Int32)), .unset, .unset, .unset, .unset, .unset] [(.int p1), (.ref w_GT)]) t) => q38 t (by
      show Go p e below T37 (mkF m 19 #[.val (.int p1), .val (.int (0 : Int32)), .val (.int (1 : Int32)), .unset, .unset, .unset, .unset, .unset] [(.ref w_GT)]) _
      refine XS.iloadN X37.here hx rfl (hb hby at_19) rfl ?_
      exact kt)
    obtain ⟨cq41, kq41, q41a, q41b, q41c⟩ := isOf hZ e37 (cx.2.2.2.2.2.1.ext O0.2)
    obtain ⟨_, _, ⟨T40, L40, k40, n40⟩, -, X40, ⟨Lc40, hQ40, l40, y40, z40⟩, st40⟩ := X37.virtualBack hx (y := (⟨"com/example/fence/fence/Filter$Op", "holds", "(I)Z"⟩ : MethodName)) (z := (⟨"com/example/fence/fence/Filter$Op", "holds", "(I)Z"⟩ : MethodName)) hown (mvT hZ (own_w hw 3 rfl)) (mvT hZ (own_w hw 4 rfl)) (notFace_of_selects (args := #[]) (mvT hZ (own_w hw 6 rfl))) (mvT hZ (own_w hw 6 rfl)) (mvT hZ (own_w hw 5 rfl)) (by decide) (backOf (W := 0) (rm1_GT0 l Z a0 hw [] cx p1 h0 n0 O0 hc') hZ (own_w hw 7 rfl) (own_w hw 1 rfl) (by decide) (by decide)) q41a q41c (g := (mkF m 20 #[.val (.int p1), .val (.int (0 : Int32)), .val (.int (1 : Int32)), .unset, .unset, .unset, .unset, .unset] [(.int p1), (.ref w_GT)])) rfl (by rw [hml]; rfl) (Steps.refl _) (argsL := [(.int p1)]) (rest := []) (lenOf pd_1 rfl) rfl (by show 2 * 0 + _ ≤ _; exact Nat.le_of_eq rfl) (hb hby at_20) (fun _ _ => ⟨rfl, e37, (by decide : 0 + 0 ≤ _), (by decide : 0 + 0 ≤ _)⟩)
    dsimp only [Pt.U, Pt.locs, Pt.cells, Pt.slots] at X40 l40 y40 z40 st40 hQ40
    subst l40 y40 z40
    obtain ⟨rfl, Nq40, eq40⟩ := hQ40
    have N42 := Fr.app N34 Nq40
    have q43 := fun t (kt : Go p e below T40 (mkF m 23 #[.val (.int p1), .val (.int (0 : Int32)), .val (.int (1 : Int32)), .unset, .unset, .unset, .unset, .unset] [(.int (0 : Int32))]) t) => q39 t (st40.trans kt)
    have q44 := fun t (kt : Go p e below T40 (mkF m 125 #[.val (.int p1), .val (.int (0 : Int32)), .val (.int (1 : Int32)), .val (.int (0 : Int32)), .val (.int (0 : Int32)), .val (.int (1 : Int32)), .val (.int (0 : Int32)), .val (.int (1 : Int32))] [(.int (1 : Int32))]) t) => q43 t (by
      show Go p e below T40 (mkF m 23 #[.val (.int p1), .val (.int (0 : Int32)), .val (.int (1 : Int32)), .unset, .unset, .unset, .unset, .unset] [(.int (0 : Int32))]) _
      refine XS.istoreN X40.here hx rfl (hb hby at_23) rfl (l' := #[.val (.int p1), .val (.int (0 : Int32)), .val (.int (1 : Int32)), .val (.int (0 : Int32)), .unset, .unset, .unset, .unset]) rfl ?_
      show Go p e below T40 (mkF m 24 #[.val (.int p1), .val (.int (0 : Int32)), .val (.int (1 : Int32)), .val (.int (0 : Int32)), .unset, .unset, .unset, .unset] []) _
      refine XS.iloadN X40.here hx rfl (hb hby at_24) rfl ?_
      show Go p e below T40 (mkF m 25 #[.val (.int p1), .val (.int (0 : Int32)), .val (.int (1 : Int32)), .val (.int (0 : Int32)), .unset, .unset, .unset, .unset] [(.int p1)]) _
      refine XS.ifNo X40.here hx rfl (hb hby at_25) rfl ((if0 _ _).trans (tlt ha).2.1) ?_
      show Go p e below T40 (mkF m 28 #[.val (.int p1), .val (.int (0 : Int32)), .val (.int (1 : Int32)), .val (.int (0 : Int32)), .unset, .unset, .unset, .unset] []) _
      refine XS.iconst X40.here hx rfl (hb hby at_28) ?_
      show Go p e below T40 (mkF m 29 #[.val (.int p1), .val (.int (0 : Int32)), .val (.int (1 : Int32)), .val (.int (0 : Int32)), .unset, .unset, .unset, .unset] [(.int (0 : Int32))]) _
      refine XS.istore X40.here hx rfl (hb hby at_29) rfl (l' := #[.val (.int p1), .val (.int (0 : Int32)), .val (.int (1 : Int32)), .val (.int (0 : Int32)), .val (.int (0 : Int32)), .unset, .unset, .unset]) rfl ?_
      show Go p e below T40 (mkF m 31 #[.val (.int p1), .val (.int (0 : Int32)), .val (.int (1 : Int32)), .val (.int (0 : Int32)), .val (.int (0 : Int32)), .unset, .unset, .unset] []) _
      refine XS.iconst X40.here hx rfl (hb hby at_31) ?_
      show Go p e below T40 (mkF m 32 #[.val (.int p1), .val (.int (0 : Int32)), .val (.int (1 : Int32)), .val (.int (0 : Int32)), .val (.int (0 : Int32)), .unset, .unset, .unset] [(.int (1 : Int32))]) _
      refine XS.istore X40.here hx rfl (hb hby at_32) rfl (l' := #[.val (.int p1), .val (.int (0 : Int32)), .val (.int (1 : Int32)), .val (.int (0 : Int32)), .val (.int (0 : Int32)), .val (.int (1 : Int32)), .unset, .unset]) rfl ?_
      show Go p e below T40 (mkF m 34 #[.val (.int p1), .val (.int (0 : Int32)), .val (.int (1 : Int32)), .val (.int (0 : Int32)), .val (.int (0 : Int32)), .val (.int (1 : Int32)), .unset, .unset] []) _
      refine XS.iconst X40.here hx rfl (hb hby at_34) ?_
      show Go p e below T40 (mkF m 35 #[.val (.int p1), .val (.int (0 : Int32)), .val (.int (1 : Int32)), .val (.int (0 : Int32)), .val (.int (0 : Int32)), .val (.int (1 : Int32)), .unset, .unset] [(.int (0 : Int32))]) _
      refine XS.istore X40.here hx rfl (hb hby at_35) rfl (l' := #[.val (.int p1), .val (.int (0 : Int32)), .val (.int (1 : Int32)), .val (.int (0 : Int32)), .val (.int (0 : Int32)), .val (.int (1 : Int32)), .val (.int (0 : Int32)), .unset]) rfl ?_
      show Go p e below T40 (mkF m 37 #[.val (.int p1), .val (.int (0 : Int32)), .val (.int (1 : Int32)), .val (.int (0 : Int32)), .val (.int (0 : Int32)), .val (.int (1 : Int32)), .val (.int (0 : Int32)), .unset] []) _
      refine XS.goto X40.here hx rfl (pc0 := 37) (pc' := 65) rfl (hb hby at_37) (by decide) (by decide) ?_
      show Go p e below T40 (mkF m 65 #[.val (.int p1), .val (.int (0 : Int32)), .val (.int (1 : Int32)), .val (.int (0 : Int32)), .val (.int (0 : Int32)), .val (.int (1 : Int32)), .val (.int (0 : Int32)), .unset] []) _
      refine XS.iloadN X40.here hx rfl (hb hby at_65) rfl ?_
      show Go p e below T40 (mkF m 66 #[.val (.int p1), .val (.int (0 : Int32)), .val (.int (1 : Int32)), .val (.int (0 : Int32)), .val (.int (0 : Int32)), .val (.int (1 : Int32)), .val (.int (0 : Int32)), .unset] [(.int (0 : Int32))]) _
      refine XS.ifYes X40.here hx rfl (pc0 := 66) (pc' := 73) rfl (hb hby at_66) rfl ((if0 _ _).trans (teq (rfl : (0 : Int32) = (0 : Int32))).1) (by decide) (by decide) ?_
      show Go p e below T40 (mkF m 73 #[.val (.int p1), .val (.int (0 : Int32)), .val (.int (1 : Int32)), .val (.int (0 : Int32)), .val (.int (0 : Int32)), .val (.int (1 : Int32)), .val (.int (0 : Int32)), .unset] []) _
      refine XS.iconst X40.here hx rfl (hb hby at_73) ?_
      show Go p e below T40 (mkF m 74 #[.val (.int p1), .val (.int (0 : Int32)), .val (.int (1 : Int32)), .val (.int (0 : Int32)), .val (.int (0 : Int32)), .val (.int (1 : Int32)), .val (.int (0 : Int32)), .unset] [(.int (0 : Int32))]) _
      refine XS.iloadN X40.here hx rfl (hb hby at_74) rfl ?_
      show Go p e below T40 (mkF m 75 #[.val (.int p1), .val (.int (0 : Int32)), .val (.int (1 : Int32)), .val (.int (0 : Int32)), .val (.int (0 : Int32)), .val (.int (1 : Int32)), .val (.int (0 : Int32)), .unset] [(.int (1 : Int32)), (.int (0 : Int32))]) _
      refine XS.ifNo X40.here hx rfl (hb hby at_75) rfl ((if0 _ _).trans (feq (by decide : ¬ ((1 : Int32) = (0 : Int32)))).1) ?_
      show Go p e below T40 (mkF m 78 #[.val (.int p1), .val (.int (0 : Int32)), .val (.int (1 : Int32)), .val (.int (0 : Int32)), .val (.int (0 : Int32)), .val (.int (1 : Int32)), .val (.int (0 : Int32)), .unset] [(.int (0 : Int32))]) _
      refine XS.iconst X40.here hx rfl (hb hby at_78) ?_
      show Go p e below T40 (mkF m 79 #[.val (.int p1), .val (.int (0 : Int32)), .val (.int (1 : Int32)), .val (.int (0 : Int32)), .val (.int (0 : Int32)), .val (.int (1 : Int32)), .val (.int (0 : Int32)), .unset] [(.int (1 : Int32)), (.int (0 : Int32))]) _
      refine XS.goto X40.here hx rfl (pc0 := 79) (pc' := 83) rfl (hb hby at_79) (by decide) (by decide) ?_
      show Go p e below T40 (mkF m 83 #[.val (.int p1), .val (.int (0 : Int32)), .val (.int (1 : Int32)), .val (.int (0 : Int32)), .val (.int (0 : Int32)), .val (.int (1 : Int32)), .val (.int (0 : Int32)), .unset] [(.int (1 : Int32)), (.int (0 : Int32))]) _
      refine XS.iadd X40.here hx rfl (hb hby at_83) rfl ?_
      show Go p e below T40 (mkF m 84 #[.val (.int p1), .val (.int (0 : Int32)), .val (.int (1 : Int32)), .val (.int (0 : Int32)), .val (.int (0 : Int32)), .val (.int (1 : Int32)), .val (.int (0 : Int32)), .unset] [(.int (1 : Int32))]) _
      refine XS.iloadN X40.here hx rfl (hb hby at_84) rfl ?_
      show Go p e below T40 (mkF m 85 #[.val (.int p1), .val (.int (0 : Int32)), .val (.int (1 : Int32)), .val (.int (0 : Int32)), .val (.int (0 : Int32)), .val (.int (1 : Int32)), .val (.int (0 : Int32)), .unset] [(.int (0 : Int32)), (.int (1 : Int32))]) _
      refine XS.ifYes X40.here hx rfl (pc0 := 85) (pc' := 92) rfl (hb hby at_85) rfl ((if0 _ _).trans (teq (rfl : (0 : Int32) = (0 : Int32))).1) (by decide) (by decide) ?_
      show Go p e below T40 (mkF m 92 #[.val (.int p1), .val (.int (0 : Int32)), .val (.int (1 : Int32)), .val (.int (0 : Int32)), .val (.int (0 : Int32)), .val (.int (1 : Int32)), .val (.int (0 : Int32)), .unset] [(.int (1 : Int32))]) _
      refine XS.iconst X40.here hx rfl (hb hby at_92) ?_
      show Go p e below T40 (mkF m 93 #[.val (.int p1), .val (.int (0 : Int32)), .val (.int (1 : Int32)), .val (.int (0 : Int32)), .val (.int (0 : Int32)), .val (.int (1 : Int32)), .val (.int (0 : Int32)), .unset] [(.int (0 : Int32)), (.int (1 : Int32))]) _
      refine XS.iadd X40.here hx rfl (hb hby at_93) rfl ?_
      show Go p e below T40 (mkF m 94 #[.val (.int p1), .val (.int (0 : Int32)), .val (.int (1 : Int32)), .val (.int (0 : Int32)), .val (.int (0 : Int32)), .val (.int (1 : Int32)), .val (.int (0 : Int32)), .unset] [(.int (1 : Int32))]) _
      refine XS.istore X40.here hx rfl (hb hby at_94) rfl (l' := #[.val (.int p1), .val (.int (0 : Int32)), .val (.int (1 : Int32)), .val (.int (0 : Int32)), .val (.int (0 : Int32)), .val (.int (1 : Int32)), .val (.int (0 : Int32)), .val (.int (1 : Int32))]) rfl ?_
      show Go p e below T40 (mkF m 96 #[.val (.int p1), .val (.int (0 : Int32)), .val (.int (1 : Int32)), .val (.int (0 : Int32)), .val (.int (0 : Int32)), .val (.int (1 : Int32)), .val (.int (0 : Int32)), .val (.int (1 : Int32))] []) _
      refine XS.iloadN X40.here hx rfl (hb hby at_96) rfl ?_
      show Go p e below T40 (mkF m 97 #[.val (.int p1), .val (.int (0 : Int32)), .val (.int (1 : Int32)), .val (.int (0 : Int32)), .val (.int (0 : Int32)), .val (.int (1 : Int32)), .val (.int (0 : Int32)), .val (.int (1 : Int32))] [(.int (0 : Int32))]) _
      refine XS.iload X40.here hx rfl (hb hby at_97) rfl ?_
      show Go p e below T40 (mkF m 99 #[.val (.int p1), .val (.int (0 : Int32)), .val (.int (1 : Int32)), .val (.int (0 : Int32)), .val (.int (0 : Int32)), .val (.int (1 : Int32)), .val (.int (0 : Int32)), .val (.int (1 : Int32))] [(.int (0 : Int32)), (.int (0 : Int32))]) _
      refine XS.icmpNo X40.here hx rfl (hb hby at_99) rfl (teq (rfl : (0 : Int32) = (0 : Int32))).2 ?_
      show Go p e below T40 (mkF m 102 #[.val (.int p1), .val (.int (0 : Int32)), .val (.int (1 : Int32)), .val (.int (0 : Int32)), .val (.int (0 : Int32)), .val (.int (1 : Int32)), .val (.int (0 : Int32)), .val (.int (1 : Int32))] []) _
      refine XS.iloadN X40.here hx rfl (hb hby at_102) rfl ?_
      show Go p e below T40 (mkF m 103 #[.val (.int p1), .val (.int (0 : Int32)), .val (.int (1 : Int32)), .val (.int (0 : Int32)), .val (.int (0 : Int32)), .val (.int (1 : Int32)), .val (.int (0 : Int32)), .val (.int (1 : Int32))] [(.int (1 : Int32))]) _
      refine XS.iload X40.here hx rfl (hb hby at_103) rfl ?_
      show Go p e below T40 (mkF m 105 #[.val (.int p1), .val (.int (0 : Int32)), .val (.int (1 : Int32)), .val (.int (0 : Int32)), .val (.int (0 : Int32)), .val (.int (1 : Int32)), .val (.int (0 : Int32)), .val (.int (1 : Int32))] [(.int (1 : Int32)), (.int (1 : Int32))]) _
      refine XS.icmpNo X40.here hx rfl (hb hby at_105) rfl (teq (rfl : (1 : Int32) = (1 : Int32))).2 ?_
      show Go p e below T40 (mkF m 108 #[.val (.int p1), .val (.int (0 : Int32)), .val (.int (1 : Int32)), .val (.int (0 : Int32)), .val (.int (0 : Int32)), .val (.int (1 : Int32)), .val (.int (0 : Int32)), .val (.int (1 : Int32))] []) _
      refine XS.iloadN X40.here hx rfl (hb hby at_108) rfl ?_
      show Go p e below T40 (mkF m 109 #[.val (.int p1), .val (.int (0 : Int32)), .val (.int (1 : Int32)), .val (.int (0 : Int32)), .val (.int (0 : Int32)), .val (.int (1 : Int32)), .val (.int (0 : Int32)), .val (.int (1 : Int32))] [(.int (0 : Int32))]) _
      refine XS.iload X40.here hx rfl (hb hby at_109) rfl ?_
      show Go p e below T40 (mkF m 111 #[.val (.int p1), .val (.int (0 : Int32)), .val (.int (1 : Int32)), .val (.int (0 : Int32)), .val (.int (0 : Int32)), .val (.int (1 : Int32)), .val (.int (0 : Int32)), .val (.int (1 : Int32))] [(.int (0 : Int32)), (.int (0 : Int32))]) _
      refine XS.icmpNo X40.here hx rfl (hb hby at_111) rfl (teq (rfl : (0 : Int32) = (0 : Int32))).2 ?_
      show Go p e below T40 (mkF m 114 #[.val (.int p1), .val (.int (0 : Int32)), .val (.int (1 : Int32)), .val (.int (0 : Int32)), .val (.int (0 : Int32)), .val (.int (1 : Int32)), .val (.int (0 : Int32)), .val (.int (1 : Int32))] []) _
      refine XS.iload X40.here hx rfl (hb hby at_114) rfl ?_
      show Go p e below T40 (mkF m 116 #[.val (.int p1), .val (.int (0 : Int32)), .val (.int (1 : Int32)), .val (.int (0 : Int32)), .val (.int (0 : Int32)), .val (.int (1 : Int32)), .val (.int (0 : Int32)), .val (.int (1 : Int32))] [(.int (1 : Int32))]) _
      refine XS.iconst X40.here hx rfl (hb hby at_116) ?_
      show Go p e below T40 (mkF m 117 #[.val (.int p1), .val (.int (0 : Int32)), .val (.int (1 : Int32)), .val (.int (0 : Int32)), .val (.int (0 : Int32)), .val (.int (1 : Int32)), .val (.int (0 : Int32)), .val (.int (1 : Int32))] [(.int (1 : Int32)), (.int (1 : Int32))]) _
      refine XS.icmpNo X40.here hx rfl (hb hby at_117) rfl (teq (rfl : (1 : Int32) = (1 : Int32))).2 ?_
      show Go p e below T40 (mkF m 120 #[.val (.int p1), .val (.int (0 : Int32)), .val (.int (1 : Int32)), .val (.int (0 : Int32)), .val (.int (0 : Int32)), .val (.int (1 : Int32)), .val (.int (0 : Int32)), .val (.int (1 : Int32))] []) _
      refine XS.iconst X40.here hx rfl (hb hby at_120) ?_
      show Go p e below T40 (mkF m 121 #[.val (.int p1), .val (.int (0 : Int32)), .val (.int (1 : Int32)), .val (.int (0 : Int32)), .val (.int (0 : Int32)), .val (.int (1 : Int32)), .val (.int (0 : Int32)), .val (.int (1 : Int32))] [(.int (1 : Int32))]) _
      refine XS.goto X40.here hx rfl (pc0 := 121) (pc' := 125) rfl (hb hby at_121) (by decide) (by decide) ?_
      exact kt)
    exact ⟨some (.int (1 : Int32)), T40, _, _, _, _, X40, by decide, by decide, nofun, q44, fun fs hr => retN X40 hx (t := .boolean) hret (by simp) (hb hby at_125) hr, by rw [eq40]; exact ⟨rfl, N42⟩⟩
  · skip
    obtain ⟨T45, X45, e45, st45⟩ := getS2 X0 hx hZ hown (host := "") (Or.inl (own_w hw 0 rfl)) Via.refl e0 (cx.1.ext O0.2) (g := (mkF m 0 #[.val (.int p1), .unset, .unset, .unset, .unset, .unset, .unset, .unset] [])) rfl (hb hby at_0)
    have q46 := fun t (kt : Go p e below T45 (mkF m 3 #[.val (.int p1), .unset, .unset, .unset, .unset, .unset, .unset, .unset] [(.ref w_EQ)]) t) => pre0 t (st45 t kt)
    have q47 := fun t (kt : Go p e below T45 (mkF m 4 #[.val (.int p1), .unset, .unset, .unset, .unset, .unset, .unset, .unset] [(.int p1), (.ref w_EQ)]) t) => q46 t (by
      show Go p e below T45 (mkF m 3 #[.val (.int p1), .unset, .unset, .unset, .unset, .unset, .unset, .unset] [(.ref w_EQ)]) _
      refine XS.iloadN X45.here hx rfl (hb hby at_3) rfl ?_
      exact kt)
    obtain ⟨cq49, kq49, q49a, q49b, q49c⟩ := isOf hZ e45 (cx.2.1.ext O0.2)
    obtain ⟨_, _, ⟨T48, L48, k48, n48⟩, -, X48, ⟨Lc48, hQ48, l48, y48, z48⟩, st48⟩ := X45.virtualBack hx (y := (⟨"com/example/fence/fence/Filter$Op", "holds", "(I)Z"⟩ : MethodName)) (z := (⟨"com/example/fence/fence/Filter$Op", "holds", "(I)Z"⟩ : MethodName)) hown (mvT hZ (own_w hw 3 rfl)) (mvT hZ (own_w hw 4 rfl)) (notFace_of_selects (args := #[]) (mvT hZ (own_w hw 6 rfl))) (mvT hZ (own_w hw 6 rfl)) (mvT hZ (own_w hw 5 rfl)) (by decide) (backOf (W := 0) (rm1_EQ1 l Z a0 hw [] cx p1 h0 n0 O0 ha) hZ (own_w hw 7 rfl) (own_w hw 1 rfl) (by decide) (by decide)) q49a q49c (g := (mkF m 4 #[.val (.int p1), .unset, .unset, .unset, .unset, .unset, .unset, .unset] [(.int p1), (.ref w_EQ)])) rfl (by rw [hml]; rfl) (Steps.refl _) (argsL := [(.int p1)]) (rest := []) (lenOf pd_1 rfl) rfl (by show 2 * 0 + _ ≤ _; exact Nat.le_of_eq rfl) (hb hby at_4) (fun _ _ => ⟨rfl, e45, (by decide : 0 + 0 ≤ _), (by decide : 0 + 0 ≤ _)⟩)
    dsimp only [Pt.U, Pt.locs, Pt.cells, Pt.slots] at X48 l48 y48 z48 st48 hQ48
    subst l48 y48 z48
    obtain ⟨rfl, Nq48, eq48⟩ := hQ48
    have N50 := Fr.app N0 Nq48
    have q51 := fun t (kt : Go p e below T48 (mkF m 7 #[.val (.int p1), .unset, .unset, .unset, .unset, .unset, .unset, .unset] [(.int (1 : Int32))]) t) => q47 t (st48.trans kt)
    have q52 := fun t (kt : Go p e below T48 (mkF m 8 #[.val (.int p1), .val (.int (1 : Int32)), .unset, .unset, .unset, .unset, .unset, .unset] []) t) => q51 t (by
      show Go p e below T48 (mkF m 7 #[.val (.int p1), .unset, .unset, .unset, .unset, .unset, .unset, .unset] [(.int (1 : Int32))]) _
      refine XS.istoreN X48.here hx rfl (hb hby at_7) rfl (l' := #[.val (.int p1), .val (.int (1 : Int32)), .unset, .unset, .unset, .unset, .unset, .unset]) rfl ?_
      exact kt)
    obtain ⟨T53, X53, e53, st53⟩ := getS2 X48 hx hZ hown (host := "") (Or.inl (own_w hw 17 rfl)) Via.refl eq48 (cx.2.2.1.ext O0.2) (g := (mkF m 8 #[.val (.int p1), .val (.int (1 : Int32)), .unset, .unset, .unset, .unset, .unset, .unset] [])) rfl (hb hby at_8)
    have q54 := fun t (kt : Go p e below T53 (mkF m 11 #[.val (.int p1), .val (.int (1 : Int32)), .unset, .unset, .unset, .unset, .unset, .unset] [(.ref w_LT)]) t) => q52 t (st53 t kt)
    have q55 := fun t (kt : Go p e below T53 (mkF m 12 #[.val (.int p1), .val (.int (1 : Int32)), .unset, .unset, .unset, .unset, .unset, .unset] [(.int p1), (.ref w_LT)]) t) => q54 t (by
      show Go p e below T53 (mkF m 11 #[.val (.int p1), .val (.int (1 : Int32)), .unset, .unset, .unset, .unset, .unset, .unset] [(.ref w_LT)]) _
      refine XS.iloadN X53.here hx rfl (hb hby at_11) rfl ?_
      exact kt)
    obtain ⟨cq57, kq57, q57a, q57b, q57c⟩ := isOf hZ e53 (cx.2.2.2.1.ext O0.2)
    obtain ⟨_, _, ⟨T56, L56, k56, n56⟩, -, X56, ⟨Lc56, hQ56, l56, y56, z56⟩, st56⟩ := X53.virtualBack hx (y := (⟨"com/example/fence/fence/Filter$Op", "holds", "(I)Z"⟩ : MethodName)) (z := (⟨"com/example/fence/fence/Filter$Op", "holds", "(I)Z"⟩ : MethodName)) hown (mvT hZ (own_w hw 3 rfl)) (mvT hZ (own_w hw 4 rfl)) (notFace_of_selects (args := #[]) (mvT hZ (own_w hw 6 rfl))) (mvT hZ (own_w hw 6 rfl)) (mvT hZ (own_w hw 5 rfl)) (by decide) (backOf (W := 0) (rm1_LT0 l Z a0 hw [] cx p1 h0 n0 O0 hb') hZ (own_w hw 7 rfl) (own_w hw 1 rfl) (by decide) (by decide)) q57a q57c (g := (mkF m 12 #[.val (.int p1), .val (.int (1 : Int32)), .unset, .unset, .unset, .unset, .unset, .unset] [(.int p1), (.ref w_LT)])) rfl (by rw [hml]; rfl) (Steps.refl _) (argsL := [(.int p1)]) (rest := []) (lenOf pd_1 rfl) rfl (by show 2 * 0 + _ ≤ _; exact Nat.le_of_eq rfl) (hb hby at_12) (fun _ _ => ⟨rfl, e53, (by decide : 0 + 0 ≤ _), (by decide : 0 + 0 ≤ _)⟩)
    dsimp only [Pt.U, Pt.locs, Pt.cells, Pt.slots] at X56 l56 y56 z56 st56 hQ56
    subst l56 y56 z56
    obtain ⟨rfl, Nq56, eq56⟩ := hQ56
    have N58 := Fr.app N50 Nq56
    have q59 := fun t (kt : Go p e below T56 (mkF m 15 #[.val (.int p1), .val (.int (1 : Int32)), .unset, .unset, .unset, .unset, .unset, .unset] [(.int (0 : Int32))]) t) => q55 t (st56.trans kt)
    have q60 := fun t (kt : Go p e below T56 (mkF m 16 #[.val (.int p1), .val (.int (1 : Int32)), .val (.int (0 : Int32)), .unset, .unset, .unset, .unset, .unset] []) t) => q59 t (by
      show Go p e below T56 (mkF m 15 #[.val (.int p1), .val (.int (1 : Int32)), .unset, .unset, .unset, .unset, .unset, .unset] [(.int (0 : Int32))]) _
      refine XS.istoreN X56.here hx rfl (hb hby at_15) rfl (l' := #[.val (.int p1), .val (.int (1 : Int32)), .val (.int (0 : Int32)), .unset, .unset, .unset, .unset, .unset]) rfl ?_
      exact kt)
    obtain ⟨T61, X61, e61, st61⟩ := getS2 X56 hx hZ hown (host := "") (Or.inl (own_w hw 19 rfl)) Via.refl eq56 (cx.2.2.2.2.1.ext O0.2) (g := (mkF m 16 #[.val (.int p1), .val (.int (1 : Int32)), .val (.int (0 : Int32)), .unset, .unset, .unset, .unset, .unset] [])) rfl (hb hby at_16)
    have q62 := fun t (kt : Go p e below T61 (mkF m 19 #[.val (.int p1), .val (.int (1 : Int32)), .val (.int (0 : Int32)), .unset, .unset, .unset, .unset, .unset] [(.ref w_GT)]) t) => q60 t (st61 t kt)
    have q63 := fun t (kt : Go p e below T61 (mkF m 20 #[.val (.int p1), .val (.int (1 : Int32)), .val (.int (0 : Int32)), .unset, .unset, .unset, .unset, .unset] [(.int p1), (.ref w_GT)]) t) => q62 t (by
      show Go p e below T61 (mkF m 19 #[.val (.int p1), .val (.int (1 : Int32)), .val (.int (0 : Int32)), .unset, .unset, .unset, .unset, .unset] [(.ref w_GT)]) _
      refine XS.iloadN X61.here hx rfl (hb hby at_19) rfl ?_
      exact kt)
    obtain ⟨cq65, kq65, q65a, q65b, q65c⟩ := isOf hZ e61 (cx.2.2.2.2.2.1.ext O0.2)
    obtain ⟨_, _, ⟨T64, L64, k64, n64⟩, -, X64, ⟨Lc64, hQ64, l64, y64, z64⟩, st64⟩ := X61.virtualBack hx (y := (⟨"com/example/fence/fence/Filter$Op", "holds", "(I)Z"⟩ : MethodName)) (z := (⟨"com/example/fence/fence/Filter$Op", "holds", "(I)Z"⟩ : MethodName)) hown (mvT hZ (own_w hw 3 rfl)) (mvT hZ (own_w hw 4 rfl)) (notFace_of_selects (args := #[]) (mvT hZ (own_w hw 6 rfl))) (mvT hZ (own_w hw 6 rfl)) (mvT hZ (own_w hw 5 rfl)) (by decide) (backOf (W := 0) (rm1_GT0 l Z a0 hw [] cx p1 h0 n0 O0 hc') hZ (own_w hw 7 rfl) (own_w hw 1 rfl) (by decide) (by decide)) q65a q65c (g := (mkF m 20 #[.val (.int p1), .val (.int (1 : Int32)), .val (.int (0 : Int32)), .unset, .unset, .unset, .unset, .unset] [(.int p1), (.ref w_GT)])) rfl (by rw [hml]; rfl) (Steps.refl _) (argsL := [(.int p1)]) (rest := []) (lenOf pd_1 rfl) rfl (by show 2 * 0 + _ ≤ _; exact Nat.le_of_eq rfl) (hb hby at_20) (fun _ _ => ⟨rfl, e61, (by decide : 0 + 0 ≤ _), (by decide : 0 + 0 ≤ _)⟩)
    dsimp only [Pt.U, Pt.locs, Pt.cells, Pt.slots] at X64 l64 y64 z64 st64 hQ64
    subst l64 y64 z64
    obtain ⟨rfl, Nq64, eq64⟩ := hQ64
    have N66 := Fr.app N58 Nq64
    have q67 := fun t (kt : Go p e below T64 (mkF m 23 #[.val (.int p1), .val (.int (1 : Int32)), .val (.int (0 : Int32)), .unset, .unset, .unset, .unset, .unset] [(.int (0 : Int32))]) t) => q63 t (st64.trans kt)
    have q68 := fun t (kt : Go p e below T64 (mkF m 125 #[.val (.int p1), .val (.int (1 : Int32)), .val (.int (0 : Int32)), .val (.int (0 : Int32)), .val (.int (1 : Int32)), .val (.int (0 : Int32)), .val (.int (0 : Int32)), .val (.int (1 : Int32))] [(.int (1 : Int32))]) t) => q67 t (by
      show Go p e below T64 (mkF m 23 #[.val (.int p1), .val (.int (1 : Int32)), .val (.int (0 : Int32)), .unset, .unset, .unset, .unset, .unset] [(.int (0 : Int32))]) _
      refine XS.istoreN X64.here hx rfl (hb hby at_23) rfl (l' := #[.val (.int p1), .val (.int (1 : Int32)), .val (.int (0 : Int32)), .val (.int (0 : Int32)), .unset, .unset, .unset, .unset]) rfl ?_
      show Go p e below T64 (mkF m 24 #[.val (.int p1), .val (.int (1 : Int32)), .val (.int (0 : Int32)), .val (.int (0 : Int32)), .unset, .unset, .unset, .unset] []) _
      refine XS.iloadN X64.here hx rfl (hb hby at_24) rfl ?_
      show Go p e below T64 (mkF m 25 #[.val (.int p1), .val (.int (1 : Int32)), .val (.int (0 : Int32)), .val (.int (0 : Int32)), .unset, .unset, .unset, .unset] [(.int p1)]) _
      refine XS.ifYes X64.here hx rfl (pc0 := 25) (pc' := 40) rfl (hb hby at_25) rfl ((if0 _ _).trans (flt hb').2.1) (by decide) (by decide) ?_
      show Go p e below T64 (mkF m 40 #[.val (.int p1), .val (.int (1 : Int32)), .val (.int (0 : Int32)), .val (.int (0 : Int32)), .unset, .unset, .unset, .unset] []) _
      refine XS.iloadN X64.here hx rfl (hb hby at_40) rfl ?_
      show Go p e below T64 (mkF m 41 #[.val (.int p1), .val (.int (1 : Int32)), .val (.int (0 : Int32)), .val (.int (0 : Int32)), .unset, .unset, .unset, .unset] [(.int p1)]) _
      refine XS.ifNo X64.here hx rfl (hb hby at_41) rfl ((if0 _ _).trans (teq ha).2) ?_
      show Go p e below T64 (mkF m 44 #[.val (.int p1), .val (.int (1 : Int32)), .val (.int (0 : Int32)), .val (.int (0 : Int32)), .unset, .unset, .unset, .unset] []) _
      refine XS.iconst X64.here hx rfl (hb hby at_44) ?_
      show Go p e below T64 (mkF m 45 #[.val (.int p1), .val (.int (1 : Int32)), .val (.int (0 : Int32)), .val (.int (0 : Int32)), .unset, .unset, .unset, .unset] [(.int (1 : Int32))]) _
      refine XS.istore X64.here hx rfl (hb hby at_45) rfl (l' := #[.val (.int p1), .val (.int (1 : Int32)), .val (.int (0 : Int32)), .val (.int (0 : Int32)), .val (.int (1 : Int32)), .unset, .unset, .unset]) rfl ?_
      show Go p e below T64 (mkF m 47 #[.val (.int p1), .val (.int (1 : Int32)), .val (.int (0 : Int32)), .val (.int (0 : Int32)), .val (.int (1 : Int32)), .unset, .unset, .unset] []) _
      refine XS.iconst X64.here hx rfl (hb hby at_47) ?_
      show Go p e below T64 (mkF m 48 #[.val (.int p1), .val (.int (1 : Int32)), .val (.int (0 : Int32)), .val (.int (0 : Int32)), .val (.int (1 : Int32)), .unset, .unset, .unset] [(.int (0 : Int32))]) _
      refine XS.istore X64.here hx rfl (hb hby at_48) rfl (l' := #[.val (.int p1), .val (.int (1 : Int32)), .val (.int (0 : Int32)), .val (.int (0 : Int32)), .val (.int (1 : Int32)), .val (.int (0 : Int32)), .unset, .unset]) rfl ?_
      show Go p e below T64 (mkF m 50 #[.val (.int p1), .val (.int (1 : Int32)), .val (.int (0 : Int32)), .val (.int (0 : Int32)), .val (.int (1 : Int32)), .val (.int (0 : Int32)), .unset, .unset] []) _
      refine XS.iconst X64.here hx rfl (hb hby at_50) ?_
      show Go p e below T64 (mkF m 51 #[.val (.int p1), .val (.int (1 : Int32)), .val (.int (0 : Int32)), .val (.int (0 : Int32)), .val (.int (1 : Int32)), .val (.int (0 : Int32)), .unset, .unset] [(.int (0 : Int32))]) _
      refine XS.istore X64.here hx rfl (hb hby at_51) rfl (l' := #[.val (.int p1), .val (.int (1 : Int32)), .val (.int (0 : Int32)), .val (.int (0 : Int32)), .val (.int (1 : Int32)), .val (.int (0 : Int32)), .val (.int (0 : Int32)), .unset]) rfl ?_
      show Go p e below T64 (mkF m 53 #[.val (.int p1), .val (.int (1 : Int32)), .val (.int (0 : Int32)), .val (.int (0 : Int32)), .val (.int (1 : Int32)), .val (.int (0 : Int32)), .val (.int (0 : Int32)), .unset] []) _
      refine XS.goto X64.here hx rfl (pc0 := 53) (pc' := 65) rfl (hb hby at_53) (by decide) (by decide) ?_
      show Go p e below T64 (mkF m 65 #[.val (.int p1), .val (.int (1 : Int32)), .val (.int (0 : Int32)), .val (.int (0 : Int32)), .val (.int (1 : Int32)), .val (.int (0 : Int32)), .val (.int (0 : Int32)), .unset] []) _
      refine XS.iloadN X64.here hx rfl (hb hby at_65) rfl ?_
      show Go p e below T64 (mkF m 66 #[.val (.int p1), .val (.int (1 : Int32)), .val (.int (0 : Int32)), .val (.int (0 : Int32)), .val (.int (1 : Int32)), .val (.int (0 : Int32)), .val (.int (0 : Int32)), .unset] [(.int (1 : Int32))]) _
      refine XS.ifNo X64.here hx rfl (hb hby at_66) rfl ((if0 _ _).trans (feq (by decide : ¬ ((1 : Int32) = (0 : Int32)))).1) ?_
      show Go p e below T64 (mkF m 69 #[.val (.int p1), .val (.int (1 : Int32)), .val (.int (0 : Int32)), .val (.int (0 : Int32)), .val (.int (1 : Int32)), .val (.int (0 : Int32)), .val (.int (0 : Int32)), .unset] []) _
      refine XS.iconst X64.here hx rfl (hb hby at_69) ?_
      show Go p e below T64 (mkF m 70 #[.val (.int p1), .val (.int (1 : Int32)), .val (.int (0 : Int32)), .val (.int (0 : Int32)), .val (.int (1 : Int32)), .val (.int (0 : Int32)), .val (.int (0 : Int32)), .unset] [(.int (1 : Int32))]) _
      refine XS.goto X64.here hx rfl (pc0 := 70) (pc' := 74) rfl (hb hby at_70) (by decide) (by decide) ?_
      show Go p e below T64 (mkF m 74 #[.val (.int p1), .val (.int (1 : Int32)), .val (.int (0 : Int32)), .val (.int (0 : Int32)), .val (.int (1 : Int32)), .val (.int (0 : Int32)), .val (.int (0 : Int32)), .unset] [(.int (1 : Int32))]) _
      refine XS.iloadN X64.here hx rfl (hb hby at_74) rfl ?_
      show Go p e below T64 (mkF m 75 #[.val (.int p1), .val (.int (1 : Int32)), .val (.int (0 : Int32)), .val (.int (0 : Int32)), .val (.int (1 : Int32)), .val (.int (0 : Int32)), .val (.int (0 : Int32)), .unset] [(.int (0 : Int32)), (.int (1 : Int32))]) _
      refine XS.ifYes X64.here hx rfl (pc0 := 75) (pc' := 82) rfl (hb hby at_75) rfl ((if0 _ _).trans (teq (rfl : (0 : Int32) = (0 : Int32))).1) (by decide) (by decide) ?_
      show Go p e below T64 (mkF m 82 #[.val (.int p1), .val (.int (1 : Int32)), .val (.int (0 : Int32)), .val (.int (0 : Int32)), .val (.int (1 : Int32)), .val (.int (0 : Int32)), .val (.int (0 : Int32)), .unset] [(.int (1 : Int32))]) _
      refine XS.iconst X64.here hx rfl (hb hby at_82) ?_
      show Go p e below T64 (mkF m 83 #[.val (.int p1), .val (.int (1 : Int32)), .val (.int (0 : Int32)), .val (.int (0 : Int32)), .val (.int (1 : Int32)), .val (.int (0 : Int32)), .val (.int (0 : Int32)), .unset] [(.int (0 : Int32)), (.int (1 : Int32))]) _
      refine XS.iadd X64.here hx rfl (hb hby at_83) rfl ?_
      show Go p e below T64 (mkF m 84 #[.val (.int p1), .val (.int (1 : Int32)), .val (.int (0 : Int32)), .val (.int (0 : Int32)), .val (.int (1 : Int32)), .val (.int (0 : Int32)), .val (.int (0 : Int32)), .unset] [(.int (1 : Int32))]) _
      refine XS.iloadN X64.here hx rfl (hb hby at_84) rfl ?_
      show Go p e below T64 (mkF m 85 #[.val (.int p1), .val (.int (1 : Int32)), .val (.int (0 : Int32)), .val (.int (0 : Int32)), .val (.int (1 : Int32)), .val (.int (0 : Int32)), .val (.int (0 : Int32)), .unset] [(.int (0 : Int32)), (.int (1 : Int32))]) _
      refine XS.ifYes X64.here hx rfl (pc0 := 85) (pc' := 92) rfl (hb hby at_85) rfl ((if0 _ _).trans (teq (rfl : (0 : Int32) = (0 : Int32))).1) (by decide) (by decide) ?_
      show Go p e below T64 (mkF m 92 #[.val (.int p1), .val (.int (1 : Int32)), .val (.int (0 : Int32)), .val (.int (0 : Int32)), .val (.int (1 : Int32)), .val (.int (0 : Int32)), .val (.int (0 : Int32)), .unset] [(.int (1 : Int32))]) _
      refine XS.iconst X64.here hx rfl (hb hby at_92) ?_
      show Go p e below T64 (mkF m 93 #[.val (.int p1), .val (.int (1 : Int32)), .val (.int (0 : Int32)), .val (.int (0 : Int32)), .val (.int (1 : Int32)), .val (.int (0 : Int32)), .val (.int (0 : Int32)), .unset] [(.int (0 : Int32)), (.int (1 : Int32))]) _
      refine XS.iadd X64.here hx rfl (hb hby at_93) rfl ?_
      show Go p e below T64 (mkF m 94 #[.val (.int p1), .val (.int (1 : Int32)), .val (.int (0 : Int32)), .val (.int (0 : Int32)), .val (.int (1 : Int32)), .val (.int (0 : Int32)), .val (.int (0 : Int32)), .unset] [(.int (1 : Int32))]) _
      refine XS.istore X64.here hx rfl (hb hby at_94) rfl (l' := #[.val (.int p1), .val (.int (1 : Int32)), .val (.int (0 : Int32)), .val (.int (0 : Int32)), .val (.int (1 : Int32)), .val (.int (0 : Int32)), .val (.int (0 : Int32)), .val (.int (1 : Int32))]) rfl ?_
      show Go p e below T64 (mkF m 96 #[.val (.int p1), .val (.int (1 : Int32)), .val (.int (0 : Int32)), .val (.int (0 : Int32)), .val (.int (1 : Int32)), .val (.int (0 : Int32)), .val (.int (0 : Int32)), .val (.int (1 : Int32))] []) _
      refine XS.iloadN X64.here hx rfl (hb hby at_96) rfl ?_
      show Go p e below T64 (mkF m 97 #[.val (.int p1), .val (.int (1 : Int32)), .val (.int (0 : Int32)), .val (.int (0 : Int32)), .val (.int (1 : Int32)), .val (.int (0 : Int32)), .val (.int (0 : Int32)), .val (.int (1 : Int32))] [(.int (1 : Int32))]) _
      refine XS.iload X64.here hx rfl (hb hby at_97) rfl ?_
      show Go p e below T64 (mkF m 99 #[.val (.int p1), .val (.int (1 : Int32)), .val (.int (0 : Int32)), .val (.int (0 : Int32)), .val (.int (1 : Int32)), .val (.int (0 : Int32)), .val (.int (0 : Int32)), .val (.int (1 : Int32))] [(.int (1 : Int32)), (.int (1 : Int32))]) _
      refine XS.icmpNo X64.here hx rfl (hb hby at_99) rfl (teq (rfl : (1 : Int32) = (1 : Int32))).2 ?_
      show Go p e below T64 (mkF m 102 #[.val (.int p1), .val (.int (1 : Int32)), .val (.int (0 : Int32)), .val (.int (0 : Int32)), .val (.int (1 : Int32)), .val (.int (0 : Int32)), .val (.int (0 : Int32)), .val (.int (1 : Int32))] []) _
      refine XS.iloadN X64.here hx rfl (hb hby at_102) rfl ?_
      show Go p e below T64 (mkF m 103 #[.val (.int p1), .val (.int (1 : Int32)), .val (.int (0 : Int32)), .val (.int (0 : Int32)), .val (.int (1 : Int32)), .val (.int (0 : Int32)), .val (.int (0 : Int32)), .val (.int (1 : Int32))] [(.int (0 : Int32))]) _
      refine XS.iload X64.here hx rfl (hb hby at_103) rfl ?_
      show Go p e below T64 (mkF m 105 #[.val (.int p1), .val (.int (1 : Int32)), .val (.int (0 : Int32)), .val (.int (0 : Int32)), .val (.int (1 : Int32)), .val (.int (0 : Int32)), .val (.int (0 : Int32)), .val (.int (1 : Int32))] [(.int (0 : Int32)), (.int (0 : Int32))]) _
      refine XS.icmpNo X64.here hx rfl (hb hby at_105) rfl (teq (rfl : (0 : Int32) = (0 : Int32))).2 ?_
      show Go p e below T64 (mkF m 108 #[.val (.int p1), .val (.int (1 : Int32)), .val (.int (0 : Int32)), .val (.int (0 : Int32)), .val (.int (1 : Int32)), .val (.int (0 : Int32)), .val (.int (0 : Int32)), .val (.int (1 : Int32))] []) _
      refine XS.iloadN X64.here hx rfl (hb hby at_108) rfl ?_
      show Go p e below T64 (mkF m 109 #[.val (.int p1), .val (.int (1 : Int32)), .val (.int (0 : Int32)), .val (.int (0 : Int32)), .val (.int (1 : Int32)), .val (.int (0 : Int32)), .val (.int (0 : Int32)), .val (.int (1 : Int32))] [(.int (0 : Int32))]) _
      refine XS.iload X64.here hx rfl (hb hby at_109) rfl ?_
      show Go p e below T64 (mkF m 111 #[.val (.int p1), .val (.int (1 : Int32)), .val (.int (0 : Int32)), .val (.int (0 : Int32)), .val (.int (1 : Int32)), .val (.int (0 : Int32)), .val (.int (0 : Int32)), .val (.int (1 : Int32))] [(.int (0 : Int32)), (.int (0 : Int32))]) _
      refine XS.icmpNo X64.here hx rfl (hb hby at_111) rfl (teq (rfl : (0 : Int32) = (0 : Int32))).2 ?_
      show Go p e below T64 (mkF m 114 #[.val (.int p1), .val (.int (1 : Int32)), .val (.int (0 : Int32)), .val (.int (0 : Int32)), .val (.int (1 : Int32)), .val (.int (0 : Int32)), .val (.int (0 : Int32)), .val (.int (1 : Int32))] []) _
      refine XS.iload X64.here hx rfl (hb hby at_114) rfl ?_
      show Go p e below T64 (mkF m 116 #[.val (.int p1), .val (.int (1 : Int32)), .val (.int (0 : Int32)), .val (.int (0 : Int32)), .val (.int (1 : Int32)), .val (.int (0 : Int32)), .val (.int (0 : Int32)), .val (.int (1 : Int32))] [(.int (1 : Int32))]) _
      refine XS.iconst X64.here hx rfl (hb hby at_116) ?_
      show Go p e below T64 (mkF m 117 #[.val (.int p1), .val (.int (1 : Int32)), .val (.int (0 : Int32)), .val (.int (0 : Int32)), .val (.int (1 : Int32)), .val (.int (0 : Int32)), .val (.int (0 : Int32)), .val (.int (1 : Int32))] [(.int (1 : Int32)), (.int (1 : Int32))]) _
      refine XS.icmpNo X64.here hx rfl (hb hby at_117) rfl (teq (rfl : (1 : Int32) = (1 : Int32))).2 ?_
      show Go p e below T64 (mkF m 120 #[.val (.int p1), .val (.int (1 : Int32)), .val (.int (0 : Int32)), .val (.int (0 : Int32)), .val (.int (1 : Int32)), .val (.int (0 : Int32)), .val (.int (0 : Int32)), .val (.int (1 : Int32))] []) _
      refine XS.iconst X64.here hx rfl (hb hby at_120) ?_
      show Go p e below T64 (mkF m 121 #[.val (.int p1), .val (.int (1 : Int32)), .val (.int (0 : Int32)), .val (.int (0 : Int32)), .val (.int (1 : Int32)), .val (.int (0 : Int32)), .val (.int (0 : Int32)), .val (.int (1 : Int32))] [(.int (1 : Int32))]) _
      refine XS.goto X64.here hx rfl (pc0 := 121) (pc' := 125) rfl (hb hby at_121) (by decide) (by decide) ?_
      exact kt)
    exact ⟨some (.int (1 : Int32)), T64, _, _, _, _, X64, by decide, by decide, nofun, q68, fun fs hr => retN X64 hx (t := .boolean) hret (by simp) (hb hby at_125) hr, by rw [eq64]; exact ⟨rfl, N66⟩⟩
  · skip
    obtain ⟨T69, X69, e69, st69⟩ := getS2 X0 hx hZ hown (host := "") (Or.inl (own_w hw 0 rfl)) Via.refl e0 (cx.1.ext O0.2) (g := (mkF m 0 #[.val (.int p1), .unset, .unset, .unset, .unset, .unset, .unset, .unset] [])) rfl (hb hby at_0)
    have q70 := fun t (kt : Go p e below T69 (mkF m 3 #[.val (.int p1), .unset, .unset, .unset, .unset, .unset, .unset, .unset] [(.ref w_EQ)]) t) => pre0 t (st69 t kt)
    have q71 := fun t (kt : Go p e below T69 (mkF m 4 #[.val (.int p1), .unset, .unset, .unset, .unset, .unset, .unset, .unset] [(.int p1), (.ref w_EQ)]) t) => q70 t (by
      show Go p e below T69 (mkF m 3 #[.val (.int p1), .unset, .unset, .unset, .unset, .unset, .unset, .unset] [(.ref w_EQ)]) _
      refine XS.iloadN X69.here hx rfl (hb hby at_3) rfl ?_
      exact kt)
    obtain ⟨cq73, kq73, q73a, q73b, q73c⟩ := isOf hZ e69 (cx.2.1.ext O0.2)
    obtain ⟨_, _, ⟨T72, L72, k72, n72⟩, -, X72, ⟨Lc72, hQ72, l72, y72, z72⟩, st72⟩ := X69.virtualBack hx (y := (⟨"com/example/fence/fence/Filter$Op", "holds", "(I)Z"⟩ : MethodName)) (z := (⟨"com/example/fence/fence/Filter$Op", "holds", "(I)Z"⟩ : MethodName)) hown (mvT hZ (own_w hw 3 rfl)) (mvT hZ (own_w hw 4 rfl)) (notFace_of_selects (args := #[]) (mvT hZ (own_w hw 6 rfl))) (mvT hZ (own_w hw 6 rfl)) (mvT hZ (own_w hw 5 rfl)) (by decide) (backOf (W := 0) (rm1_EQ0 l Z a0 hw [] cx p1 h0 n0 O0 hb') hZ (own_w hw 7 rfl) (own_w hw 1 rfl) (by decide) (by decide)) q73a q73c (g := (mkF m 4 #[.val (.int p1), .unset, .unset, .unset, .unset, .unset, .unset, .unset] [(.int p1), (.ref w_EQ)])) rfl (by rw [hml]; rfl) (Steps.refl _) (argsL := [(.int p1)]) (rest := []) (lenOf pd_1 rfl) rfl (by show 2 * 0 + _ ≤ _; exact Nat.le_of_eq rfl) (hb hby at_4) (fun _ _ => ⟨rfl, e69, (by decide : 0 + 0 ≤ _), (by decide : 0 + 0 ≤ _)⟩)
    dsimp only [Pt.U, Pt.locs, Pt.cells, Pt.slots] at X72 l72 y72 z72 st72 hQ72
    subst l72 y72 z72
    obtain ⟨rfl, Nq72, eq72⟩ := hQ72
    have N74 := Fr.app N0 Nq72
    have q75 := fun t (kt : Go p e below T72 (mkF m 7 #[.val (.int p1), .unset, .unset, .unset, .unset, .unset, .unset, .unset] [(.int (0 : Int32))]) t) => q71 t (st72.trans kt)
    have q76 := fun t (kt : Go p e below T72 (mkF m 8 #[.val (.int p1), .val (.int (0 : Int32)), .unset, .unset, .unset, .unset, .unset, .unset] []) t) => q75 t (by
      show Go p e below T72 (mkF m 7 #[.val (.int p1), .unset, .unset, .unset, .unset, .unset, .unset, .unset] [(.int (0 : Int32))]) _
      refine XS.istoreN X72.here hx rfl (hb hby at_7) rfl (l' := #[.val (.int p1), .val (.int (0 : Int32)), .unset, .unset, .unset, .unset, .unset, .unset]) rfl ?_
      exact kt)
    obtain ⟨T77, X77, e77, st77⟩ := getS2 X72 hx hZ hown (host := "") (Or.inl (own_w hw 17 rfl)) Via.refl eq72 (cx.2.2.1.ext O0.2) (g := (mkF m 8 #[.val (.int p1), .val (.int (0 : Int32)), .unset, .unset, .unset, .unset, .unset, .unset] [])) rfl (hb hby at_8)
    have q78 := fun t (kt : Go p e below T77 (mkF m 11 #[.val (.int p1), .val (.int (0 : Int32)), .unset, .unset, .unset, .unset, .unset, .unset] [(.ref w_LT)]) t) => q76 t (st77 t kt)
    have q79 := fun t (kt : Go p e below T77 (mkF m 12 #[.val (.int p1), .val (.int (0 : Int32)), .unset, .unset, .unset, .unset, .unset, .unset] [(.int p1), (.ref w_LT)]) t) => q78 t (by
      show Go p e below T77 (mkF m 11 #[.val (.int p1), .val (.int (0 : Int32)), .unset, .unset, .unset, .unset, .unset, .unset] [(.ref w_LT)]) _
      refine XS.iloadN X77.here hx rfl (hb hby at_11) rfl ?_
      exact kt)
    obtain ⟨cq81, kq81, q81a, q81b, q81c⟩ := isOf hZ e77 (cx.2.2.2.1.ext O0.2)
    obtain ⟨_, _, ⟨T80, L80, k80, n80⟩, -, X80, ⟨Lc80, hQ80, l80, y80, z80⟩, st80⟩ := X77.virtualBack hx (y := (⟨"com/example/fence/fence/Filter$Op", "holds", "(I)Z"⟩ : MethodName)) (z := (⟨"com/example/fence/fence/Filter$Op", "holds", "(I)Z"⟩ : MethodName)) hown (mvT hZ (own_w hw 3 rfl)) (mvT hZ (own_w hw 4 rfl)) (notFace_of_selects (args := #[]) (mvT hZ (own_w hw 6 rfl))) (mvT hZ (own_w hw 6 rfl)) (mvT hZ (own_w hw 5 rfl)) (by decide) (backOf (W := 0) (rm1_LT0 l Z a0 hw [] cx p1 h0 n0 O0 hc') hZ (own_w hw 7 rfl) (own_w hw 1 rfl) (by decide) (by decide)) q81a q81c (g := (mkF m 12 #[.val (.int p1), .val (.int (0 : Int32)), .unset, .unset, .unset, .unset, .unset, .unset] [(.int p1), (.ref w_LT)])) rfl (by rw [hml]; rfl) (Steps.refl _) (argsL := [(.int p1)]) (rest := []) (lenOf pd_1 rfl) rfl (by show 2 * 0 + _ ≤ _; exact Nat.le_of_eq rfl) (hb hby at_12) (fun _ _ => ⟨rfl, e77, (by decide : 0 + 0 ≤ _), (by decide : 0 + 0 ≤ _)⟩)
    dsimp only [Pt.U, Pt.locs, Pt.cells, Pt.slots] at X80 l80 y80 z80 st80 hQ80
    subst l80 y80 z80
    obtain ⟨rfl, Nq80, eq80⟩ := hQ80
    have N82 := Fr.app N74 Nq80
    have q83 := fun t (kt : Go p e below T80 (mkF m 15 #[.val (.int p1), .val (.int (0 : Int32)), .unset, .unset, .unset, .unset, .unset, .unset] [(.int (0 : Int32))]) t) => q79 t (st80.trans kt)
    have q84 := fun t (kt : Go p e below T80 (mkF m 16 #[.val (.int p1), .val (.int (0 : Int32)), .val (.int (0 : Int32)), .unset, .unset, .unset, .unset, .unset] []) t) => q83 t (by
      show Go p e below T80 (mkF m 15 #[.val (.int p1), .val (.int (0 : Int32)), .unset, .unset, .unset, .unset, .unset, .unset] [(.int (0 : Int32))]) _
      refine XS.istoreN X80.here hx rfl (hb hby at_15) rfl (l' := #[.val (.int p1), .val (.int (0 : Int32)), .val (.int (0 : Int32)), .unset, .unset, .unset, .unset, .unset]) rfl ?_
      exact kt)
    obtain ⟨T85, X85, e85, st85⟩ := getS2 X80 hx hZ hown (host := "") (Or.inl (own_w hw 19 rfl)) Via.refl eq80 (cx.2.2.2.2.1.ext O0.2) (g := (mkF m 16 #[.val (.int p1), .val (.int (0 : Int32)), .val (.int (0 : Int32)), .unset, .unset, .unset, .unset, .unset] [])) rfl (hb hby at_16)
    have q86 := fun t (kt : Go p e below T85 (mkF m 19 #[.val (.int p1), .val (.int (0 : Int32)), .val (.int (0 : Int32)), .unset, .unset, .unset, .unset, .unset] [(.ref w_GT)]) t) => q84 t (st85 t kt)
    have q87 := fun t (kt : Go p e below T85 (mkF m 20 #[.val (.int p1), .val (.int (0 : Int32)), .val (.int (0 : Int32)), .unset, .unset, .unset, .unset, .unset] [(.int p1), (.ref w_GT)]) t) => q86 t (by
      show Go p e below T85 (mkF m 19 #[.val (.int p1), .val (.int (0 : Int32)), .val (.int (0 : Int32)), .unset, .unset, .unset, .unset, .unset] [(.ref w_GT)]) _
      refine XS.iloadN X85.here hx rfl (hb hby at_19) rfl ?_
      exact kt)
    obtain ⟨cq89, kq89, q89a, q89b, q89c⟩ := isOf hZ e85 (cx.2.2.2.2.2.1.ext O0.2)
    obtain ⟨_, _, ⟨T88, L88, k88, n88⟩, -, X88, ⟨Lc88, hQ88, l88, y88, z88⟩, st88⟩ := X85.virtualBack hx (y := (⟨"com/example/fence/fence/Filter$Op", "holds", "(I)Z"⟩ : MethodName)) (z := (⟨"com/example/fence/fence/Filter$Op", "holds", "(I)Z"⟩ : MethodName)) hown (mvT hZ (own_w hw 3 rfl)) (mvT hZ (own_w hw 4 rfl)) (notFace_of_selects (args := #[]) (mvT hZ (own_w hw 6 rfl))) (mvT hZ (own_w hw 6 rfl)) (mvT hZ (own_w hw 5 rfl)) (by decide) (backOf (W := 0) (rm1_GT1 l Z a0 hw [] cx p1 h0 n0 O0 ha) hZ (own_w hw 7 rfl) (own_w hw 1 rfl) (by decide) (by decide)) q89a q89c (g := (mkF m 20 #[.val (.int p1), .val (.int (0 : Int32)), .val (.int (0 : Int32)), .unset, .unset, .unset, .unset, .unset] [(.int p1), (.ref w_GT)])) rfl (by rw [hml]; rfl) (Steps.refl _) (argsL := [(.int p1)]) (rest := []) (lenOf pd_1 rfl) rfl (by show 2 * 0 + _ ≤ _; exact Nat.le_of_eq rfl) (hb hby at_20) (fun _ _ => ⟨rfl, e85, (by decide : 0 + 0 ≤ _), (by decide : 0 + 0 ≤ _)⟩)
    dsimp only [Pt.U, Pt.locs, Pt.cells, Pt.slots] at X88 l88 y88 z88 st88 hQ88
    subst l88 y88 z88
    obtain ⟨rfl, Nq88, eq88⟩ := hQ88
    have N90 := Fr.app N82 Nq88
    have q91 := fun t (kt : Go p e below T88 (mkF m 23 #[.val (.int p1), .val (.int (0 : Int32)), .val (.int (0 : Int32)), .unset, .unset, .unset, .unset, .unset] [(.int (1 : Int32))]) t) => q87 t (st88.trans kt)
    have q92 := fun t (kt : Go p e below T88 (mkF m 125 #[.val (.int p1), .val (.int (0 : Int32)), .val (.int (0 : Int32)), .val (.int (1 : Int32)), .val (.int (0 : Int32)), .val (.int (0 : Int32)), .val (.int (1 : Int32)), .val (.int (1 : Int32))] [(.int (1 : Int32))]) t) => q91 t (by
      show Go p e below T88 (mkF m 23 #[.val (.int p1), .val (.int (0 : Int32)), .val (.int (0 : Int32)), .unset, .unset, .unset, .unset, .unset] [(.int (1 : Int32))]) _
      refine XS.istoreN X88.here hx rfl (hb hby at_23) rfl (l' := #[.val (.int p1), .val (.int (0 : Int32)), .val (.int (0 : Int32)), .val (.int (1 : Int32)), .unset, .unset, .unset, .unset]) rfl ?_
      show Go p e below T88 (mkF m 24 #[.val (.int p1), .val (.int (0 : Int32)), .val (.int (0 : Int32)), .val (.int (1 : Int32)), .unset, .unset, .unset, .unset] []) _
      refine XS.iloadN X88.here hx rfl (hb hby at_24) rfl ?_
      show Go p e below T88 (mkF m 25 #[.val (.int p1), .val (.int (0 : Int32)), .val (.int (0 : Int32)), .val (.int (1 : Int32)), .unset, .unset, .unset, .unset] [(.int p1)]) _
      refine XS.ifYes X88.here hx rfl (pc0 := 25) (pc' := 40) rfl (hb hby at_25) rfl ((if0 _ _).trans (flt hc').2.1) (by decide) (by decide) ?_
      show Go p e below T88 (mkF m 40 #[.val (.int p1), .val (.int (0 : Int32)), .val (.int (0 : Int32)), .val (.int (1 : Int32)), .unset, .unset, .unset, .unset] []) _
      refine XS.iloadN X88.here hx rfl (hb hby at_40) rfl ?_
      show Go p e below T88 (mkF m 41 #[.val (.int p1), .val (.int (0 : Int32)), .val (.int (0 : Int32)), .val (.int (1 : Int32)), .unset, .unset, .unset, .unset] [(.int p1)]) _
      refine XS.ifYes X88.here hx rfl (pc0 := 41) (pc' := 56) rfl (hb hby at_41) rfl ((if0 _ _).trans (feq hb').2) (by decide) (by decide) ?_
      show Go p e below T88 (mkF m 56 #[.val (.int p1), .val (.int (0 : Int32)), .val (.int (0 : Int32)), .val (.int (1 : Int32)), .unset, .unset, .unset, .unset] []) _
      refine XS.iconst X88.here hx rfl (hb hby at_56) ?_
      show Go p e below T88 (mkF m 57 #[.val (.int p1), .val (.int (0 : Int32)), .val (.int (0 : Int32)), .val (.int (1 : Int32)), .unset, .unset, .unset, .unset] [(.int (0 : Int32))]) _
      refine XS.istore X88.here hx rfl (hb hby at_57) rfl (l' := #[.val (.int p1), .val (.int (0 : Int32)), .val (.int (0 : Int32)), .val (.int (1 : Int32)), .val (.int (0 : Int32)), .unset, .unset, .unset]) rfl ?_
      show Go p e below T88 (mkF m 59 #[.val (.int p1), .val (.int (0 : Int32)), .val (.int (0 : Int32)), .val (.int (1 : Int32)), .val (.int (0 : Int32)), .unset, .unset, .unset] []) _
      refine XS.iconst X88.here hx rfl (hb hby at_59) ?_
      show Go p e below T88 (mkF m 60 #[.val (.int p1), .val (.int (0 : Int32)), .val (.int (0 : Int32)), .val (.int (1 : Int32)), .val (.int (0 : Int32)), .unset, .unset, .unset] [(.int (0 : Int32))]) _
      refine XS.istore X88.here hx rfl (hb hby at_60) rfl (l' := #[.val (.int p1), .val (.int (0 : Int32)), .val (.int (0 : Int32)), .val (.int (1 : Int32)), .val (.int (0 : Int32)), .val (.int (0 : Int32)), .unset, .unset]) rfl ?_
      show Go p e below T88 (mkF m 62 #[.val (.int p1), .val (.int (0 : Int32)), .val (.int (0 : Int32)), .val (.int (1 : Int32)), .val (.int (0 : Int32)), .val (.int (0 : Int32)), .unset, .unset] []) _
      refine XS.iconst X88.here hx rfl (hb hby at_62) ?_
      show Go p e below T88 (mkF m 63 #[.val (.int p1), .val (.int (0 : Int32)), .val (.int (0 : Int32)), .val (.int (1 : Int32)), .val (.int (0 : Int32)), .val (.int (0 : Int32)), .unset, .unset] [(.int (1 : Int32))]) _
      refine XS.istore X88.here hx rfl (hb hby at_63) rfl (l' := #[.val (.int p1), .val (.int (0 : Int32)), .val (.int (0 : Int32)), .val (.int (1 : Int32)), .val (.int (0 : Int32)), .val (.int (0 : Int32)), .val (.int (1 : Int32)), .unset]) rfl ?_
      show Go p e below T88 (mkF m 65 #[.val (.int p1), .val (.int (0 : Int32)), .val (.int (0 : Int32)), .val (.int (1 : Int32)), .val (.int (0 : Int32)), .val (.int (0 : Int32)), .val (.int (1 : Int32)), .unset] []) _
      refine XS.iloadN X88.here hx rfl (hb hby at_65) rfl ?_
      show Go p e below T88 (mkF m 66 #[.val (.int p1), .val (.int (0 : Int32)), .val (.int (0 : Int32)), .val (.int (1 : Int32)), .val (.int (0 : Int32)), .val (.int (0 : Int32)), .val (.int (1 : Int32)), .unset] [(.int (0 : Int32))]) _
      refine XS.ifYes X88.here hx rfl (pc0 := 66) (pc' := 73) rfl (hb hby at_66) rfl ((if0 _ _).trans (teq (rfl : (0 : Int32) = (0 : Int32))).1) (by decide) (by decide) ?_
      show Go p e below T88 (mkF m 73 #[.val (.int p1), .val (.int (0 : Int32)), .val (.int (0 : Int32)), .val (.int (1 : Int32)), .val (.int (0 : Int32)), .val (.int (0 : Int32)), .val (.int (1 : Int32)), .unset] []) _
      refine XS.iconst X88.here hx rfl (hb hby at_73) ?_
      show Go p e below T88 (mkF m 74 #[.val (.int p1), .val (.int (0 : Int32)), .val (.int (0 : Int32)), .val (.int (1 : Int32)), .val (.int (0 : Int32)), .val (.int (0 : Int32)), .val (.int (1 : Int32)), .unset] [(.int (0 : Int32))]) _
      refine XS.iloadN X88.here hx rfl (hb hby at_74) rfl ?_
      show Go p e below T88 (mkF m 75 #[.val (.int p1), .val (.int (0 : Int32)), .val (.int (0 : Int32)), .val (.int (1 : Int32)), .val (.int (0 : Int32)), .val (.int (0 : Int32)), .val (.int (1 : Int32)), .unset] [(.int (0 : Int32)), (.int (0 : Int32))]) _
      refine XS.ifYes X88.here hx rfl (pc0 := 75) (pc' := 82) rfl (hb hby at_75) rfl ((if0 _ _).trans (teq (rfl : (0 : Int32) = (0 : Int32))).1) (by decide) (by decide) ?_
      show Go p e below T88 (mkF m 82 #[.val (.int p1), .val (.int (0 : Int32)), .val (.int (0 : Int32)), .val (.int (1 : Int32)), .val (.int (0 : Int32)), .val (.int (0 : Int32)), .val (.int (1 : Int32)), .unset] [(.int (0 : Int32))]) _
      refine XS.iconst X88.here hx rfl (hb hby at_82) ?_
      show Go p e below T88 (mkF m 83 #[.val (.int p1), .val (.int (0 : Int32)), .val (.int (0 : Int32)), .val (.int (1 : Int32)), .val (.int (0 : Int32)), .val (.int (0 : Int32)), .val (.int (1 : Int32)), .unset] [(.int (0 : Int32)), (.int (0 : Int32))]) _
      refine XS.iadd X88.here hx rfl (hb hby at_83) rfl ?_
      show Go p e below T88 (mkF m 84 #[.val (.int p1), .val (.int (0 : Int32)), .val (.int (0 : Int32)), .val (.int (1 : Int32)), .val (.int (0 : Int32)), .val (.int (0 : Int32)), .val (.int (1 : Int32)), .unset] [(.int (0 : Int32))]) _
      refine XS.iloadN X88.here hx rfl (hb hby at_84) rfl ?_
      show Go p e below T88 (mkF m 85 #[.val (.int p1), .val (.int (0 : Int32)), .val (.int (0 : Int32)), .val (.int (1 : Int32)), .val (.int (0 : Int32)), .val (.int (0 : Int32)), .val (.int (1 : Int32)), .unset] [(.int (1 : Int32)), (.int (0 : Int32))]) _
      refine XS.ifNo X88.here hx rfl (hb hby at_85) rfl ((if0 _ _).trans (feq (by decide : ¬ ((1 : Int32) = (0 : Int32)))).1) ?_
      show Go p e below T88 (mkF m 88 #[.val (.int p1), .val (.int (0 : Int32)), .val (.int (0 : Int32)), .val (.int (1 : Int32)), .val (.int (0 : Int32)), .val (.int (0 : Int32)), .val (.int (1 : Int32)), .unset] [(.int (0 : Int32))]) _
      refine XS.iconst X88.here hx rfl (hb hby at_88) ?_
      show Go p e below T88 (mkF m 89 #[.val (.int p1), .val (.int (0 : Int32)), .val (.int (0 : Int32)), .val (.int (1 : Int32)), .val (.int (0 : Int32)), .val (.int (0 : Int32)), .val (.int (1 : Int32)), .unset] [(.int (1 : Int32)), (.int (0 : Int32))]) _
      refine XS.goto X88.here hx rfl (pc0 := 89) (pc' := 93) rfl (hb hby at_89) (by decide) (by decide) ?_
      show Go p e below T88 (mkF m 93 #[.val (.int p1), .val (.int (0 : Int32)), .val (.int (0 : Int32)), .val (.int (1 : Int32)), .val (.int (0 : Int32)), .val (.int (0 : Int32)), .val (.int (1 : Int32)), .unset] [(.int (1 : Int32)), (.int (0 : Int32))]) _
      refine XS.iadd X88.here hx rfl (hb hby at_93) rfl ?_
      show Go p e below T88 (mkF m 94 #[.val (.int p1), .val (.int (0 : Int32)), .val (.int (0 : Int32)), .val (.int (1 : Int32)), .val (.int (0 : Int32)), .val (.int (0 : Int32)), .val (.int (1 : Int32)), .unset] [(.int (1 : Int32))]) _
      refine XS.istore X88.here hx rfl (hb hby at_94) rfl (l' := #[.val (.int p1), .val (.int (0 : Int32)), .val (.int (0 : Int32)), .val (.int (1 : Int32)), .val (.int (0 : Int32)), .val (.int (0 : Int32)), .val (.int (1 : Int32)), .val (.int (1 : Int32))]) rfl ?_
      show Go p e below T88 (mkF m 96 #[.val (.int p1), .val (.int (0 : Int32)), .val (.int (0 : Int32)), .val (.int (1 : Int32)), .val (.int (0 : Int32)), .val (.int (0 : Int32)), .val (.int (1 : Int32)), .val (.int (1 : Int32))] []) _
      refine XS.iloadN X88.here hx rfl (hb hby at_96) rfl ?_
      show Go p e below T88 (mkF m 97 #[.val (.int p1), .val (.int (0 : Int32)), .val (.int (0 : Int32)), .val (.int (1 : Int32)), .val (.int (0 : Int32)), .val (.int (0 : Int32)), .val (.int (1 : Int32)), .val (.int (1 : Int32))] [(.int (0 : Int32))]) _
      refine XS.iload X88.here hx rfl (hb hby at_97) rfl ?_
      show Go p e below T88 (mkF m 99 #[.val (.int p1), .val (.int (0 : Int32)), .val (.int (0 : Int32)), .val (.int (1 : Int32)), .val (.int (0 : Int32)), .val (.int (0 : Int32)), .val (.int (1 : Int32)), .val (.int (1 : Int32))] [(.int (0 : Int32)), (.int (0 : Int32))]) _
      refine XS.icmpNo X88.here hx rfl (hb hby at_99) rfl (teq (rfl : (0 : Int32) = (0 : Int32))).2 ?_
      show Go p e below T88 (mkF m 102 #[.val (.int p1), .val (.int (0 : Int32)), .val (.int (0 : Int32)), .val (.int (1 : Int32)), .val (.int (0 : Int32)), .val (.int (0 : Int32)), .val (.int (1 : Int32)), .val (.int (1 : Int32))] []) _
      refine XS.iloadN X88.here hx rfl (hb hby at_102) rfl ?_
      show Go p e below T88 (mkF m 103 #[.val (.int p1), .val (.int (0 : Int32)), .val (.int (0 : Int32)), .val (.int (1 : Int32)), .val (.int (0 : Int32)), .val (.int (0 : Int32)), .val (.int (1 : Int32)), .val (.int (1 : Int32))] [(.int (0 : Int32))]) _
      refine XS.iload X88.here hx rfl (hb hby at_103) rfl ?_
      show Go p e below T88 (mkF m 105 #[.val (.int p1), .val (.int (0 : Int32)), .val (.int (0 : Int32)), .val (.int (1 : Int32)), .val (.int (0 : Int32)), .val (.int (0 : Int32)), .val (.int (1 : Int32)), .val (.int (1 : Int32))] [(.int (0 : Int32)), (.int (0 : Int32))]) _
      refine XS.icmpNo X88.here hx rfl (hb hby at_105) rfl (teq (rfl : (0 : Int32) = (0 : Int32))).2 ?_
      show Go p e below T88 (mkF m 108 #[.val (.int p1), .val (.int (0 : Int32)), .val (.int (0 : Int32)), .val (.int (1 : Int32)), .val (.int (0 : Int32)), .val (.int (0 : Int32)), .val (.int (1 : Int32)), .val (.int (1 : Int32))] []) _
      refine XS.iloadN X88.here hx rfl (hb hby at_108) rfl ?_
      show Go p e below T88 (mkF m 109 #[.val (.int p1), .val (.int (0 : Int32)), .val (.int (0 : Int32)), .val (.int (1 : Int32)), .val (.int (0 : Int32)), .val (.int (0 : Int32)), .val (.int (1 : Int32)), .val (.int (1 : Int32))] [(.int (1 : Int32))]) _
      refine XS.iload X88.here hx rfl (hb hby at_109) rfl ?_
      show Go p e below T88 (mkF m 111 #[.val (.int p1), .val (.int (0 : Int32)), .val (.int (0 : Int32)), .val (.int (1 : Int32)), .val (.int (0 : Int32)), .val (.int (0 : Int32)), .val (.int (1 : Int32)), .val (.int (1 : Int32))] [(.int (1 : Int32)), (.int (1 : Int32))]) _
      refine XS.icmpNo X88.here hx rfl (hb hby at_111) rfl (teq (rfl : (1 : Int32) = (1 : Int32))).2 ?_
      show Go p e below T88 (mkF m 114 #[.val (.int p1), .val (.int (0 : Int32)), .val (.int (0 : Int32)), .val (.int (1 : Int32)), .val (.int (0 : Int32)), .val (.int (0 : Int32)), .val (.int (1 : Int32)), .val (.int (1 : Int32))] []) _
      refine XS.iload X88.here hx rfl (hb hby at_114) rfl ?_
      show Go p e below T88 (mkF m 116 #[.val (.int p1), .val (.int (0 : Int32)), .val (.int (0 : Int32)), .val (.int (1 : Int32)), .val (.int (0 : Int32)), .val (.int (0 : Int32)), .val (.int (1 : Int32)), .val (.int (1 : Int32))] [(.int (1 : Int32))]) _
      refine XS.iconst X88.here hx rfl (hb hby at_116) ?_
      show Go p e below T88 (mkF m 117 #[.val (.int p1), .val (.int (0 : Int32)), .val (.int (0 : Int32)), .val (.int (1 : Int32)), .val (.int (0 : Int32)), .val (.int (0 : Int32)), .val (.int (1 : Int32)), .val (.int (1 : Int32))] [(.int (1 : Int32)), (.int (1 : Int32))]) _
      refine XS.icmpNo X88.here hx rfl (hb hby at_117) rfl (teq (rfl : (1 : Int32) = (1 : Int32))).2 ?_
      show Go p e below T88 (mkF m 120 #[.val (.int p1), .val (.int (0 : Int32)), .val (.int (0 : Int32)), .val (.int (1 : Int32)), .val (.int (0 : Int32)), .val (.int (0 : Int32)), .val (.int (1 : Int32)), .val (.int (1 : Int32))] []) _
      refine XS.iconst X88.here hx rfl (hb hby at_120) ?_
      show Go p e below T88 (mkF m 121 #[.val (.int p1), .val (.int (0 : Int32)), .val (.int (0 : Int32)), .val (.int (1 : Int32)), .val (.int (0 : Int32)), .val (.int (0 : Int32)), .val (.int (1 : Int32)), .val (.int (1 : Int32))] [(.int (1 : Int32))]) _
      refine XS.goto X88.here hx rfl (pc0 := 121) (pc' := 125) rfl (hb hby at_121) (by decide) (by decide) ?_
      exact kt)
    exact ⟨some (.int (1 : Int32)), T88, _, _, _, _, X88, by decide, by decide, nofun, q92, fun fs hr => retN X88 hx (t := .boolean) hret (by simp) (hb hby at_125) hr, by rw [eq88]; exact ⟨rfl, N90⟩⟩
theorem comes_1 {Post : Tables → Env → Array Value → State → Outcome → State → Prop} (hpost : ∀ tb e args s v u, (limb_1_1.after args s (.returned v) u = true ∧ limb_1_2.after args s (.returned v) u = true ∧ True) → FrameEnd s (.returned v) u (Jvm.fieldLocs frame_1_writes args s ++ Jvm.arrayLocs frame_1_arrays args s ++ Jvm.staticLocs frame_1_statics s) 0 0 → Post tb e args s (.returned v) u) :
    ArmFor flags0 classFile x code maxLocals ret World_1 tables_1 room_1 Calls_1 rest_1 Pre_1 Post := by
  intro l hfl _ _ p e ha hc hk s m args below hf hA hF happ hP
  obtain ⟨hcalls, hrest, hpre⟩ := hP
  obtain ⟨-, -, -, hnamed, -, -, -, hat⟩ := (Spec.applies_iff hf).mp happ
  obtain ⟨hg, hn⟩ := and_e (Cond.before_iff.mp (show (Jvm.Cond.and given_1 narrow_1).before args s = true from hpre))
  obtain ⟨gg1, gg2⟩ := and_e hg
  obtain ⟨w0, rfl⟩ : ∃ w0 : Value, args = #[w0] := by
    have hs : args.size = 1 := by simpa [Cond.value, given_1] using gg1
    obtain ⟨L⟩ := args
    match L, hs with
    | [w0], _ => exact ⟨w0, rfl⟩
  have hw := fun d (hd : d ∈ tables_1) => atoms_spec (ws := Jvm.Cond.code x code maxLocals ret :: tables_1) hat d (List.mem_cons_of_mem _ hd)
  have hfit : Fit s := fun {y c} hc i hi => by
    obtain ⟨ha, rfl⟩ := Array.getElem?_eq_some_iff.mp hc
    have q := List.all_eq_true.mp ((Array.all_eq_true_iff_forall_mem.mp hF) _ (Array.getElem_mem ha)) i (List.mem_range.mpr hi)
    simpa [Array.getElem?_eq_getElem hi] using q
  obtain ⟨i0, ei0⟩ := is_v gg2
  obtain rfl : w0 = (.int i0) := Option.some.inj ei0
  obtain ⟨nn1, nn2⟩ := and_e hn
  obtain ⟨nn3, nn4⟩ := and_e nn2
  obtain ⟨nn5, nn6⟩ := and_e nn4
  obtain ⟨nn7, nn8⟩ := and_e nn6
  obtain ⟨nn9, nn10⟩ := and_e nn8
  obtain ⟨w_EQ, ev_w_EQ⟩ := exa_v nn1
  obtain ⟨w_LT, ev_w_LT⟩ := exa_v nn5
  obtain ⟨w_GT, ev_w_GT⟩ := exa_v nn9
  have cx : Cx s w_EQ w_LT w_GT := ⟨(Sta.start ev_w_EQ (Or.inr ⟨(own_w hw 1 rfl), (own_w hw 2 rfl)⟩)), (Exa.start ev_w_EQ nn1), (Sta.start ev_w_LT (Or.inr ⟨(own_w hw 1 rfl), (own_w hw 18 rfl)⟩)), (Exa.start ev_w_LT nn5), (Sta.start ev_w_GT (Or.inr ⟨(own_w hw 1 rfl), (own_w hw 20 rfl)⟩)), (Exa.start ev_w_GT nn9), (own_fldI ev_w_EQ nn3), (own_fldI ev_w_LT nn7), (own_fldI ev_w_GT nn10)⟩
  obtain ⟨n, o, h1, h2, h3, _, L, rfl, ⟨rfl, N⟩, hq⟩ := rm0 l s _ hw tables_1 cx i0 s.heap s.heap.size (Old.start s)  p e ha hc hk s m _ below hf ((Spec.applies_iff_loose hf).mp happ).1 ⟨rfl, State.Warmed39.refl s, rfl⟩ trivial
  refine ⟨n, _, h1, h2, h3, hpost _ _ _ _ _ _ ⟨Cond.after_iff.mpr rfl, Cond.after_iff.mpr (eq_i res_at (Term.int_eval (1)) rfl), trivial⟩ ⟨hq.1, hq.2.1, (hq.2.2.sift fun y hy => Or.inr (N y hy)).mono (by decide) (by decide)⟩⟩
theorem main_1_1 : Claimed_1_1 := comes_1 fun _ _ _ _ _ _ h hF => ⟨h.1, hF⟩
theorem main_1_2 : Claimed_1_2 := comes_1 fun _ _ _ _ _ _ h hF => ⟨h.2.1, hF⟩
end Jvm.Pilot.@@N@@
namespace Jvm.Pilot.@@N@@
open Jvm Jvm.ClassFile Sem Op Lib Jvm.Free Jvm.Stand Jvm.Pilot.@@N@@.Jvm.D
/-! MADE BY PROGRAM (witnessworld.py) out of the Statement's table words and the real class files: 12 classes; the members and pool entries that the words name. The judged class is class 1, her method 1. -/
namespace start1
open Jvm.ClassFile
def u (s : String) : CpInfo := .utf8 (stringToUtf16 s)
/-- a pool by its gaps: so many unusable entries, then the entry; so many at the end -/
def gap : Nat → List CpInfo → List CpInfo
  | 0, r => r
  | n + 1, r => .unusable :: gap n r
def poolList (es : List (Nat × CpInfo)) (last : Nat) : List CpInfo := es.foldr (fun e r => gap e.1 (e.2 :: r)) (gap last [])
def pool (es : List (Nat × CpInfo)) (last : Nat) : Array CpInfo := ⟨poolList es last⟩
def fileOf (pool : Array CpInfo) (this : Nat) (attrs : Array Attribute := #[]) (ms : Array MethodInfo := #[]) (fl : Nat := 33) (sup : Nat := 0) (ifs : Array Nat := #[]) (fds : Array FieldInfo := #[]) : ClassFile where
  minorVersion := 0
  majorVersion := 65
  constantPool := pool
  accessFlags := fl
  thisClass := this
  superClass := sup
  interfaces := ifs
  fields := fds
  methods := ms
  attributes := attrs
def plain (name : String) (sup : Option ClassId) : Class where
  name := name
  kind := .ordinary
  loader := none
  accessFlags := 33
  super := sup
  interfaces := #[]
  cf := none
  fields := #[]
  methods := #[]
  instanceTypes := #[]
  staticTypes := #[]
  resolved := #[]
  callSites := []
  init := .initialized
  statics := none
  mirror := none

def pool0 : Array CpInfo := pool [(5, u "<init>"), (0, u "()V"), (1, .class_ 10), (1, u "java/lang/Object")] 113

def k0m0 : Method := { name := "<init>", desc := "()V", sig := { parameters := [], returnType := none }, accessFlags := 1, code := none }
/-- java/lang/Object -/
def k0 : Class := { plain "java/lang/Object" none with
  accessFlags := 33
  interfaces := #[]
  cf := some (fileOf pool0 8 #[] #[{ accessFlags := 1, nameIndex := 5, descriptorIndex := 6, attributes := #[] }] 33 0 #[] #[])
  fields := #[]
  methods := #[k0m0]
  instanceTypes := #[]
  staticTypes := #[]
  resolved := Array.replicate 124 none
  statics := none }

def pool1 : Array CpInfo := pool [(2, .class_ 4), (1, u "java/lang/Object"), (0, u "<init>"), (0, u "()V"), (0, .fieldref 8 9), (0, .class_ 10), (0, .nameAndType 11 12), (0, u "com/example/fence/fence/Filter$Op"), (0, u "EQ"), (0, u "Lcom/example/fence/fence/Filter$Op;"), (0, .methodref 8 14), (0, .nameAndType 15 16), (0, u "holds"), (0, u "(I)Z"), (0, .fieldref 8 18), (0, .nameAndType 19 12), (0, u "LT"), (0, .fieldref 8 21), (0, .nameAndType 22 12), (0, u "GT"), (0, .class_ 24), (0, u "com/example/fence/fence/OpHoldsPinLaw"), (2, u "law")] 7

def k1m0 : Method := { name := "<init>", desc := "()V", sig := { parameters := [], returnType := none }, accessFlags := 2, code := none }
def k1c1 : Code := { maxStack := 2, maxLocals := 8, code := code, exceptionTable := #[], attributes := #[] }
def k1m1 : Method := { name := "law", desc := "(I)Z", sig := { parameters := [.int], returnType := some .boolean }, accessFlags := 9, code := some k1c1 }
/-- com/example/fence/fence/OpHoldsPinLaw -/
def k1 : Class := { plain "com/example/fence/fence/OpHoldsPinLaw" (some 0) with
  accessFlags := 49
  interfaces := #[]
  cf := some (fileOf pool1 23 #[] #[{ accessFlags := 2, nameIndex := 5, descriptorIndex := 6, attributes := #[] }, { accessFlags := 9, nameIndex := 27, descriptorIndex := 16, attributes := #[] }] 49 2 #[] #[])
  fields := #[]
  methods := #[k1m0, k1m1]
  instanceTypes := #[]
  staticTypes := #[]
  resolved := Array.replicate 35 none
  statics := none }

def pool2 : Array CpInfo := pool [(1, .class_ 2), (0, u "java/lang/constant/Constable"), (0, .class_ 4), (0, u "java/lang/Object")] 6

/-- java/lang/constant/Constable -/
def k2 : Class := { plain "java/lang/constant/Constable" (some 0) with
  accessFlags := 1537
  interfaces := #[]
  cf := some (fileOf pool2 1 #[] #[] 1537 3 #[] #[])
  fields := #[]
  methods := #[]
  instanceTypes := #[]
  staticTypes := #[]
  resolved := Array.replicate 11 none
  statics := none }

def pool3 : Array CpInfo := pool [(1, .class_ 2), (0, u "java/lang/Comparable"), (0, .class_ 4), (0, u "java/lang/Object")] 7

/-- java/lang/Comparable -/
def k3 : Class := { plain "java/lang/Comparable" (some 0) with
  accessFlags := 1537
  interfaces := #[]
  cf := some (fileOf pool3 1 #[] #[] 1537 3 #[] #[])
  fields := #[]
  methods := #[]
  instanceTypes := #[]
  staticTypes := #[]
  resolved := Array.replicate 12 none
  statics := none }

def pool4 : Array CpInfo := pool [(1, .class_ 2), (0, u "java/io/Serializable"), (0, .class_ 4), (0, u "java/lang/Object")] 2

/-- java/io/Serializable -/
def k4 : Class := { plain "java/io/Serializable" (some 0) with
  accessFlags := 1537
  interfaces := #[]
  cf := some (fileOf pool4 1 #[] #[] 1537 3 #[] #[])
  fields := #[]
  methods := #[]
  instanceTypes := #[]
  staticTypes := #[]
  resolved := Array.replicate 7 none
  statics := none }

def pool5 : Array CpInfo := pool [(2, .class_ 4), (1, u "java/lang/Enum"), (0, u "name"), (0, u "Ljava/lang/String;"), (0, .fieldref 2 8), (0, .nameAndType 9 10), (0, u "ordinal"), (0, u "I"), (1, .class_ 14), (1, u "java/lang/Object"), (4, u "hash"), (86, .class_ 108), (1, u "java/lang/Enum$EnumDesc"), (2, .class_ 112), (0, u "java/lang/constant/Constable"), (0, .class_ 114), (0, u "java/lang/Comparable"), (0, .class_ 116), (0, u "java/io/Serializable"), (9, u "()I")] 77

def k5c0 : Code := { maxStack := 1, maxLocals := 1, code := jdk_37_method_2_code, exceptionTable := #[], attributes := #[] }
def k5m0 : Method := { name := "ordinal", desc := "()I", sig := { parameters := [], returnType := some .int }, accessFlags := 17, code := some k5c0 }
/-- java/lang/Enum -/
def k5 : Class := { plain "java/lang/Enum" (some 0) with
  accessFlags := 1057
  interfaces := #[2, 3, 4]
  cf := some (fileOf pool5 2 #[.nestMembers #[106]] #[{ accessFlags := 17, nameIndex := 9, descriptorIndex := 126, attributes := #[] }] 1057 12 #[111, 113, 115] #[{ accessFlags := 18, nameIndex := 5, descriptorIndex := 6, attributes := #[] }, { accessFlags := 18, nameIndex := 9, descriptorIndex := 10, attributes := #[] }, { accessFlags := 2, nameIndex := 19, descriptorIndex := 10, attributes := #[] }])
  fields := #[{ name := "name", type := (.object "java/lang/String"), accessFlags := 18, slot := 0, constantValue := 0 }, { name := "ordinal", type := .int, accessFlags := 18, slot := 1, constantValue := 0 }, { name := "hash", type := .int, accessFlags := 2, slot := 2, constantValue := 0 }]
  methods := #[k5m0]
  instanceTypes := #[(.object "java/lang/String"), .int, .int]
  staticTypes := #[]
  resolved := Array.replicate 204 none
  statics := none }

def pool6 : Array CpInfo := pool [(1, .class_ 2), (0, u "com/example/fence/fence/Filter$Op"), (2, u "EQ"), (0, u "Lcom/example/fence/fence/Filter$Op;"), (2, u "LT"), (2, u "GT"), (2, u "$VALUES"), (0, u "[Lcom/example/fence/fence/Filter$Op;"), (6, .class_ 25), (1, u "java/lang/Enum"), (6, .methodref 1 33), (0, .nameAndType 34 35), (0, u "ordinal"), (0, u "()I"), (15, u "holds"), (0, u "(I)Z"), (6, .class_ 60), (0, u "com/example/fence/fence/Filter")] 2

def k6c0 : Code := { maxStack := 1, maxLocals := 3, code := prog_7_method_4_code, exceptionTable := #[], attributes := #[] }
def k6m0 : Method := { name := "holds", desc := "(I)Z", sig := { parameters := [.int], returnType := some .boolean }, accessFlags := 0, code := some k6c0 }
/-- com/example/fence/fence/Filter$Op -/
def k6 : Class := { plain "com/example/fence/fence/Filter$Op" (some 5) with
  accessFlags := 16433
  interfaces := #[]
  cf := some (fileOf pool6 1 #[.nestHost 59] #[{ accessFlags := 0, nameIndex := 51, descriptorIndex := 52, attributes := #[] }] 16433 23 #[] #[{ accessFlags := 16409, nameIndex := 5, descriptorIndex := 6, attributes := #[] }, { accessFlags := 16409, nameIndex := 9, descriptorIndex := 6, attributes := #[] }, { accessFlags := 16409, nameIndex := 12, descriptorIndex := 6, attributes := #[] }, { accessFlags := 4122, nameIndex := 15, descriptorIndex := 16, attributes := #[] }])
  fields := #[{ name := "EQ", type := (.object "com/example/fence/fence/Filter$Op"), accessFlags := 16409, slot := 0, constantValue := 0 }, { name := "LT", type := (.object "com/example/fence/fence/Filter$Op"), accessFlags := 16409, slot := 1, constantValue := 0 }, { name := "GT", type := (.object "com/example/fence/fence/Filter$Op"), accessFlags := 16409, slot := 2, constantValue := 0 }, { name := "$VALUES", type := (.array (.object "com/example/fence/fence/Filter$Op")), accessFlags := 4122, slot := 3, constantValue := 0 }]
  methods := #[k6m0]
  instanceTypes := #[(.object "java/lang/String"), .int, .int]
  staticTypes := #[(.object "com/example/fence/fence/Filter$Op"), (.object "com/example/fence/fence/Filter$Op"), (.object "com/example/fence/fence/Filter$Op"), (.array (.object "com/example/fence/fence/Filter$Op"))]
  resolved := Array.replicate 63 none
  statics := some 0 }

def pool7 : Array CpInfo := pool [(1, u "java/lang/Cloneable"), (0, .class_ 1), (0, u "java/lang/Object"), (0, .class_ 3)] 3

/-- java/lang/Cloneable -/
def k7 : Class := { plain "java/lang/Cloneable" (some 0) with
  accessFlags := 1537
  interfaces := #[]
  cf := some (fileOf pool7 2 #[] #[] 1537 4 #[] #[])
  fields := #[]
  methods := #[]
  instanceTypes := #[]
  staticTypes := #[]
  resolved := Array.replicate 8 none
  statics := none }

/-- the primitive byte -/
def k8 : Class := { plain "byte" none with kind := .primitive 'B', accessFlags := 0x411 }
/-- [B -/
def k9 : Class := { plain "[B" (some 0) with kind := .array 8 .byte, interfaces := #[7, 4], accessFlags := 1041 }

/-- the primitive int -/
def k10 : Class := { plain "int" none with kind := .primitive 'I', accessFlags := 0x411 }
/-- [I -/
def k11 : Class := { plain "[I" (some 0) with kind := .array 10 .int, interfaces := #[7, 4], accessFlags := 1041 }

def heap : Heap := #[{ cls := 6, slots := #[.ref 1, .ref 2, .ref 3, .null], vm := .statics 6 },
  { cls := 6, slots := #[.null, .int 0, .int 0], vm := .none },
  { cls := 6, slots := #[.null, .int 1, .int 0], vm := .none },
  { cls := 6, slots := #[.null, .int 2, .int 0], vm := .none }]
def classes : Array Class := #[k0, k1, k2, k3, k4, k5, k6, k7, k8, k9, k10, k11]
def interned : List (Array UInt16 × Addr) := []
def slotsUsed : Nat := 13
def theMethod : MethodId := ⟨1, 1⟩
def args0 : Array Value := #[.int 5]
def aboutOver (below : List Frame) : State where
  vm := { classes := classes, interned := interned.toArray }
  heap := heap
  slotsUsed := slotsUsed
  threads := #[{ frames := .invoking theMethod args0 :: below }]
def below0 : List Frame := [.native { method := ⟨0, 0⟩, args := #[] }]
def about1 : State := aboutOver below0
def p0 : Program := .bare "" "" ""
def e0 : Env := launch0.env 0 0 0
theorem w_frames : about1.frames = Frame.invoking theMethod args0 :: below0 := rfl
set_option maxRecDepth 65536 in
theorem w_args : argsFit about1.vm theMethod args0 = true := by decide +kernel
set_option maxRecDepth 65536 in
theorem w_heap : heapFits about1 = true := by decide +kernel
set_option maxRecDepth 65536 in
theorem w_runnable : about1.curStatus? = some .runnable := by decide +kernel
set_option maxRecDepth 65536 in
theorem w_alone : about1.alone = true := by decide +kernel
set_option maxRecDepth 65536 in
theorem w_named : about1.methodNamed? x = some theMethod := by decide +kernel
set_option maxRecDepth 65536 in
theorem w_hears : about1.hears theMethod below0 = true := by decide +kernel
set_option maxRecDepth 65536 in
theorem w_ripe : about1.ripe theMethod args0 below0 = true := by decide +kernel
theorem w_running : about1.status = .running := rfl
set_option maxRecDepth 65536 in
theorem w_room : about1.hasRoom e0.platform room_1 = true :=
  launch0.hasRoom_least _ room_1 (by decide +kernel) (by decide +kernel) (by decide +kernel) (by decide +kernel) (by decide +kernel) (by decide +kernel)
theorem allAtoms_all (ts : List Jvm.Cond) (a : Array Jvm.Value) (st : Jvm.State) : (allAtoms ts).before a st = ts.all (fun c => c.before a st) := by
  induction ts with
  | nil => rfl
  | cons c t ih =>
    show (Jvm.Cond.and c (allAtoms t)).before a st = _
    rw [Jvm.Cond.before_and, ih, List.all_cons]
def words1 : List Jvm.Cond := Jvm.Cond.code x code maxLocals ret :: tables_1
/-- a 'code' word, met by the world's own term for the bytes: nothing is compared byte by byte -/
theorem code_word {y : MethodName} {bytes : ByteArray} {mx : Nat} {rt : Option FieldType} {a : Array Value} {s : State} {m : MethodId} {meth : Method} {c : Code} (h1 : s.methodNamed? y = some m) (h2 : s.vm.method? m = some meth) (h3 : meth.code = some c) (h4 : c.code = bytes)
    (h5 : (c.maxLocals == mx && c.exceptionTable.isEmpty && decide (c.maxStack ≤ mostOperands) && decide (meth.sig.returnType = rt) && !meth.locks && decide (parseMethodDescriptor y.desc = some meth.sig)) = true) : (Jvm.Cond.code y bytes mx rt).before a s = true := by
  simp only [Bool.and_eq_true, beq_iff_eq, Bool.not_eq_true', decide_eq_true_eq] at h5
  obtain ⟨⟨⟨⟨⟨g1, g2⟩, g3⟩, g4⟩, g5⟩, g6⟩ := h5
  simp [Cond.before, Cond.holds, Cond.value, h1, h2, h3, h4, g1, g2, g3, g4, g5, g6]
def isCode : Jvm.Cond → Bool
  | .code _ _ _ _ => true
  | _ => false
theorem all_split {L : List Jvm.Cond} {P : Jvm.Cond → Bool} (h1 : L.all (fun c => isCode c || P c) = true) (h2 : ∀ c ∈ L.filter isCode, P c = true) : L.all P = true := by
  refine List.all_eq_true.mpr fun c hc => ?_
  have h := List.all_eq_true.mp h1 c hc
  rcases Bool.eq_false_or_eq_true (isCode c) with hi | hi
  · exact h2 c (List.mem_filter.mpr ⟨hc, hi⟩)
  · simpa [hi] using h
set_option maxRecDepth 65536 in
theorem w_c0 : (Jvm.Cond.code x code maxLocals ret).before args0 about1 = true := code_word (m := ⟨1, 1⟩) (meth := k1m1) (c := k1c1) (by decide +kernel) rfl rfl rfl (by decide +kernel)
set_option maxRecDepth 65536 in
theorem w_c1 : (Jvm.Cond.code ({ cls := "com/example/fence/fence/Filter$Op", name := "holds", desc := "(I)Z" } : Jvm.MethodName) prog_7_method_4_code (3 : Nat) (Option.some Jvm.ClassFile.FieldType.boolean)).before args0 about1 = true := code_word (m := ⟨6, 0⟩) (meth := k6m0) (c := k6c0) (by decide +kernel) rfl rfl rfl (by decide +kernel)
set_option maxRecDepth 65536 in
theorem w_c2 : (Jvm.Cond.code ({ cls := "java/lang/Enum", name := "ordinal", desc := "()I" } : Jvm.MethodName) jdk_37_method_2_code (1 : Nat) (Option.some Jvm.ClassFile.FieldType.int)).before args0 about1 = true := code_word (m := ⟨5, 0⟩) (meth := k5m0) (c := k5c0) (by decide +kernel) rfl rfl rfl (by decide +kernel)
def codes1 : List Jvm.Cond := [Jvm.Cond.code x code maxLocals ret, Jvm.Cond.code ({ cls := "com/example/fence/fence/Filter$Op", name := "holds", desc := "(I)Z" } : Jvm.MethodName) prog_7_method_4_code (3 : Nat) (Option.some Jvm.ClassFile.FieldType.boolean), Jvm.Cond.code ({ cls := "java/lang/Enum", name := "ordinal", desc := "()I" } : Jvm.MethodName) jdk_37_method_2_code (1 : Nat) (Option.some Jvm.ClassFile.FieldType.int)]
set_option maxRecDepth 65536 in
theorem codes_eq : words1.filter isCode = codes1 := rfl
theorem w_codes : ∀ c ∈ words1.filter isCode, c.before args0 about1 = true := by
  rw [codes_eq]
  intro c hc
  simp only [codes1, List.mem_cons, List.not_mem_nil, or_false] at hc
  rcases hc with rfl | rfl | rfl
  · exact w_c0
  · exact w_c1
  · exact w_c2
set_option maxRecDepth 65536 in
theorem w_t1 : words1.all (fun c => isCode c || c.before args0 about1) = true := by decide +kernel
theorem w_tables : (allAtoms (Jvm.Cond.code x code maxLocals ret :: tables_1)).before args0 about1 = true := by
  rw [allAtoms_all]
  show words1.all (fun c => c.before args0 about1) = true
  refine all_split ?_ w_codes
  rw [w_t1]
set_option maxRecDepth 65536 in
theorem w_case : (Jvm.Cond.and given_1 narrow_1).before args0 about1 = true := by decide +kernel
theorem w_applies : (headSpec (Jvm.Cond.code x code maxLocals ret :: tables_1) room_1).applies x e0.platform about1 = true :=
  (Spec.applies_iff w_frames).mpr ⟨w_running, w_runnable, w_alone, w_named, w_hears, w_ripe, w_room, w_tables⟩
theorem atStart : AtStart classFile x code maxLocals ret World_1 tables_1 room_1 Calls_1 rest_1 Pre_1 launch0 p0 e0 about1 theMethod args0 below0 :=
  ⟨lists_1, trivial, launch0.admits_env _ _ _, launch0.least_env, fairChoices_fair.cas, fairChoices_fair.clock, w_frames, w_args, w_heap, w_applies, trivial, trivial, w_case⟩
end start1
theorem witness_1 : WitnessClaimed_1 := ⟨start1.p0, start1.e0, start1.about1, start1.theMethod, start1.args0, start1.below0, start1.atStart⟩
end Jvm.Pilot.@@N@@
