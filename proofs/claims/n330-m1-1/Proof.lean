import JvmDerived
import JvmDerived.Pilot.@@N@@Statement
import JvmDerived.Pilot.@@N@@Code
set_option linter.unusedVariables false
set_option linter.unusedSimpArgs false
set_option maxRecDepth 65536
set_option maxHeartbeats 40000000
namespace Jvm.RoadKit
open Sem ClassFile Op Lib Jvm.Stand Jvm.Free Jvm.LawKit
section New
variable {p : Program} {l : Launch} {e : Env} {R : Room} {s : State} {m : MethodId} {args : Array Value} {below : List Frame} {meth : Method} {c : Code} {T : State} {locs : List Loc} {cells slots : Nat}
theorem retI (X : Stand p l e R s m args below meth c T locs cells slots) (hx : p.tables.exec = Jvm.exec) {pc : Nat} {Ls : Array Slot} {z : Int32} {rest : List Value} (hret : meth.sig.returnType = some .int) (hd : decode c.code pc = .ok (.ireturn, 1)) {fs : List Frame}
    (hl : ∀ (f : JFrame) (acts : List Action), f.method = m → f.locked = none → f.entered = [] → (doReturn e (T.setTop f) acts (some (.int z))).1 = T.setFrames fs) : Steps p.tables e below (T.setTop (mkF m pc Ls (.int z :: rest))) (T.setFrames fs) := by
  have hm' : T.vm.method? m = some meth := X.method'
  have hn : narrow .int (.int z) = .int z := rfl
  show Steps p.tables e below (T.setTop { method := m, pc := pc, locals := Ls, stack := _ :: rest, locked := none }) _
  jvm_step X.here [X.here.top, hx, hd, hm', hret, hn]
  first | (intro acts; rw [hl _ acts rfl rfl rfl]) | rw [hl _ _ rfl rfl rfl]
  exact Steps.refl _
end New
end Jvm.RoadKit
namespace Jvm.Pilot.@@N@@
open Jvm Jvm.ClassFile Sem Op Lib Jvm.Free Jvm.Stand Jvm.LawKit Jvm.RoadKit Bundle Jvm.Pilot.@@N@@.Jvm.D
theorem own_w {Z : State} {a0 : Array Value} (hw : ∀ d ∈ tables_1, d.before a0 Z = true) (k : Nat) {d : Jvm.Cond} (h : tables_1[k]? = some d) : d.before a0 Z = true := hw _ (List.mem_of_getElem? h)
abbrev own_R (f c s l : Nat) : Room := { frames := f, cells := c, slots := s, locals := l }
abbrev vU : Slot := .unset
abbrev vS : Slot := .second
abbrev vN : Slot := .val .null
abbrev vI (x : Int32) : Slot := .val (.int x)
abbrev vJ (x : Int64) : Slot := .val (.long x)
abbrev vR (x : Addr) : Slot := .val (.ref x)
abbrev vV (x : Value) : Slot := .val x
abbrev Go (p : Program) (e : Env) (below : List Frame) (T : State) (f : JFrame) (t : State) : Prop := Steps p.tables e below (T.setTop f) t
theorem own_and255L (x : Int32) : ¬ (x &&& (255 : Int32)) < 0 ∧ ¬ (255 : Int32) < (x &&& (255 : Int32)) := by
  have h1 := c_mask x 255 8 (by decide) (by decide)
  have e1 : (255 : Int32).toInt = 255 := rfl
  rw [Int32.lt_iff_toInt_lt, Int32.lt_iff_toInt_lt, Int32.toInt_zero]
  constructor <;> omega
theorem own_narR {v : Value} (t : FieldType) (ht : t.isReference = true) (hv : v.isRef = true) : narrow t v = v := by cases t <;> cases v <;> simp_all [narrow, FieldType.isReference, Value.isRef]
abbrev OwnMet (l : Launch) (y : MethodName) (ws : List Jvm.Cond) (rm : Room) (A : Array Value) (Z : State) (h0 : Heap) (Q : Option Value → Heap → List Loc → Prop) : Prop :=
  MetFree l y (head1 ws rm) (fun a U => a = A ∧ Z.Warmed39 U.vm ∧ U.heap = h0) (fun _ _ _ _ _ => True) (fun _ U o U' => ∃ v L, o = .returned v ∧ Q v U'.heap L ∧ FrameEnd U o U' L rm.cells rm.slots)
theorem own_body {l : Launch} {y : MethodName} {ws : List Jvm.Cond} {rm : Room} {bytes : ByteArray} {maxL : Nat} {ret : Option FieldType} {A : Array Value} {Z : State} {h0 : Heap} {Q : Option Value → Heap → List Loc → Prop} (hp : plainFor y = true)
    (his : ∀ args (s : State) m, (head1 ws rm).pre.before args s = true → s.methodNamed? y = some m → ∃ meth c, s.vm.method? m = some meth ∧ meth.code = some c ∧ c.code = bytes ∧ c.maxLocals = maxL ∧ meth.sig.returnType = ret ∧ meth.locks = false)
    (body : ∀ (p : Program) (e : Env) (s : State) (m : MethodId) (below : List Frame) (meth : Method) (c : Code) (s₁ : State), p.tables.exec = Jvm.exec → c.code = bytes → c.maxLocals = maxL → s.vm.findClass y.cls = some m.cls → meth.name = y.name → meth.sig.returnType = ret → Z.Warmed39 s.vm → Stand p l e rm s m A below meth c s₁ [] 0 0 → s₁.heap = h0 →
      ∃ (v : Option Value) (T : State) (locs : List Loc) (cells slots : Nat) (f : JFrame), Stand p l e rm s m A below meth c T locs cells slots ∧ cells ≤ rm.cells ∧ slots ≤ rm.slots ∧ (ret = none → v = none) ∧ (∀ t, Go p e below T f t → Go p e below s₁ (entryFrame m A maxL) t) ∧
        (∀ fs, (∀ (f : JFrame) (acts : List Action), f.method = m → f.locked = none → f.entered = [] → (doReturn e (T.setTop f) acts v).1 = T.setFrames fs) → Go p e below T f (T.setFrames fs)) ∧ Q v T.heap locs) :
    MetFree l y (head1 ws rm) (fun a U => a = A ∧ Z.Warmed39 U.vm ∧ U.heap = h0) (fun _ _ _ _ _ => True) (fun _ U o U' => ∃ v L, o = .returned v ∧ Q v U'.heap L ∧ FrameEnd U o U' L rm.cells rm.slots) := by
  refine MetFree.of_bodySF hp his ?_
  intro p e s m args below meth c s₁ Bd hml0 hP hK
  obtain ⟨rfl, hZ, hh⟩ := hP
  obtain ⟨v, T, locs, cells, slots, f, X, hc, hs, hv, q, hf, hQ⟩ := body p e s m below meth c s₁ Bd.exec Bd.bytes hml0 (findClass_of_methodNamed Bd.named) (name_of_methodNamed Bd.named Bd.method).1 Bd.returns hZ (Stand.of_body Bd) (by rw [← hh, Bd.state]; rfl)
  obtain ⟨fs, hr, hrun, hended, hW, hsame⟩ := X.leave (v := v) (fun h => hv (Bd.returns ▸ h))
  exact ⟨_, _, q _ (hf fs hr), hrun, hended, v, locs, rfl, hQ, ⟨_, rfl⟩, hW, hsame.mono hc hs⟩
theorem own_eqI {args : Array Value} {Z : State} {t : Term} {k : Int32} (h : (Jvm.Cond.eq t (Term.int k)).value args Z none Z [] = some true) : t.eval args Z none [] Z = some (.int k) := by
  obtain ⟨x, y, e1, e2, k1, k2⟩ := cmp_v (Or.inl h)
  rw [Term.int_eval] at e2; cases Option.some.inj e2
  cases x <;> first | (obtain ⟨z, hz⟩ := k2; cases hz; simp [Cond.value, e1, Term.int_eval] at h; rw [e1, h]) | (obtain ⟨z, hz⟩ := k2; cases hz)
theorem own_fldI {args : Array Value} {Z : State} {t : Term} {k : Int32} {C n d : String} {w : Addr} (ht : t.eval args Z none [] Z = some (.ref w)) (h : (Jvm.Cond.eq (Term.field t C n d) (Term.int k)).value args Z none Z [] = some true) : Fld Z Z.heap w C n d (.int k) :=
  Fld.start ((fld_at ht).symm.trans (own_eqI h))
theorem own_lenI {args : Array Value} {Z : State} {t : Term} {k : Int32} {x : Addr} {cl : Cell} {ty : FieldType} (ht : t.eval args Z none [] Z = some (.ref x)) (A : Arr Z Z.heap x cl ty) (h : (Jvm.Cond.eq (Term.length t) (Term.int k)).value args Z none Z [] = some true) : cl.slots.size < 2 ^ 31 ∧ cl.slots.size.toInt32 = k := by
  obtain ⟨b, cell, e1, e2, e3, e4⟩ := Jvm.Lib.length_spec (own_eqI h)
  have eb : b = x := Value.ref.inj (Option.some.inj (e1.symm.trans ht))
  rw [eb] at e2
  have ec : cell = cl := Option.some.inj (e2.symm.trans (Arr.fin (Vm.Alike.refl _) A))
  rw [ec] at e3 e4
  exact ⟨e3, (Value.int.inj e4).symm⟩
theorem own_elI {args : Array Value} {Z : State} {t u : Term} {j : Int32} {x : Addr} {cl : Cell} {ty : FieldType} {v : Value} (ht : t.eval args Z none [] Z = some (.ref x)) (A : Arr Z Z.heap x cl ty) (hu : u.eval args Z none [] Z = some v) (hv : v.isRef = true ∨ ∃ z, v = .int z) (h : (Jvm.Cond.eq (Term.elem t (Term.int j)) u).value args Z none Z [] = some true) : cl.slots[j.toNatClampNeg]? = some v := by
  obtain ⟨a, b, e1, e2, k1, k2⟩ := cmp_v (Or.inl h)
  cases Option.some.inj (e2.symm.trans hu)
  have q := (elem_in e1 ht (Term.int_eval j) A.1).2
  have e : a = v := by
    rcases hv with hv | ⟨z, rfl⟩
    · have ha : a.isRef = true := by cases v <;> simp [Kin, Value.isRef] at k2 hv ⊢ <;> exact k2
      exact gotT (eq_R e1 e2 ha hv) h
    · obtain ⟨z', rfl⟩ := k2
      have := gotT (Cond.eq_ints e1 e2) h
      rw [this]
  rw [← e]; exact q

def Cx (Z : State) (r_REF : Addr) (sw : Addr) (x_REF : Addr) (r_INP : Addr) (x_INP : Addr) (kc_sw : ClassId) : Prop := Sta Z Z.heap "com/example/installwright/installwright/engine/EngineException$Reason" "REFUSED" "Lcom/example/installwright/installwright/engine/EngineException$Reason;" (.ref r_REF) ∧ Exa Z Z.heap r_REF "com/example/installwright/installwright/engine/EngineException$Reason" ∧ Sta Z Z.heap "com/example/installwright/installwright/cli/ExitCode$1" "$SwitchMap$com$example$installwright$installwright$engine$EngineException$Reason" "[I" (.ref sw) ∧ Sta Z Z.heap "com/example/installwright/installwright/cli/ExitCode" "REFUSED" "Lcom/example/installwright/installwright/cli/ExitCode;" (.ref x_REF) ∧ Exa Z Z.heap x_REF "com/example/installwright/installwright/cli/ExitCode" ∧ Sta Z Z.heap "com/example/installwright/installwright/engine/EngineException$Reason" "INPUT_UNAVAILABLE" "Lcom/example/installwright/installwright/engine/EngineException$Reason;" (.ref r_INP) ∧ Exa Z Z.heap r_INP "com/example/installwright/installwright/engine/EngineException$Reason" ∧ Sta Z Z.heap "com/example/installwright/installwright/cli/ExitCode" "INPUT_UNAVAILABLE" "Lcom/example/installwright/installwright/cli/ExitCode;" (.ref x_INP) ∧ Exa Z Z.heap x_INP "com/example/installwright/installwright/cli/ExitCode" ∧ Fld Z Z.heap r_REF "java/lang/Enum" "ordinal" "I" (.int (0 : Int32)) ∧ Fld Z Z.heap x_REF "com/example/installwright/installwright/cli/ExitCode" "code" "I" (.int (3 : Int32)) ∧ Fld Z Z.heap r_INP "java/lang/Enum" "ordinal" "I" (.int (1 : Int32)) ∧ Fld Z Z.heap x_INP "com/example/installwright/installwright/cli/ExitCode" "code" "I" (.int (4 : Int32)) ∧ Arv Z Z.heap sw kc_sw .int (2 : Int32) [(.int (1 : Int32)), (.int (2 : Int32))] (.int (0 : Int32))
theorem ef_2_R (m : MethodId) (x0 : Addr) : entryFrame m #[(.ref x0)] 1 = mkF m 0 #[.val (.ref x0)] [] := by first | (simp [entryFrame, mkF, argsToLocals, Value.category]; done) | rfl
theorem pn_2 : plainName "java/lang/Enum" = true := by first | (simp [plainName, overriddenIn]; done) | decide +kernel
theorem d2_0 : decode jdk_37_method_2_code 0 = .ok (.aload_n 0, 1) := by decide +kernel
theorem d2_1 : decode jdk_37_method_2_code 1 = .ok (.getfield 7, 3) := by decide +kernel
theorem d2_4 : decode jdk_37_method_2_code 4 = .ok (.ireturn, 1) := by decide +kernel
def Q_rm2 (Z : State) (a1 : Addr) (w2 : Int32) (r_REF : Addr) (sw : Addr) (x_REF : Addr) (r_INP : Addr) (x_INP : Addr) (kc_sw : ClassId) (h0 : Heap) (n0 : Nat) (v : Option Value) (h : Heap) (L : List Loc) : Prop := v = some (.int w2) ∧ Fr n0 L ∧ h = h0
theorem rm2 (l : Launch) (Z : State) (a0 : Array Value) (hw : ∀ d ∈ tables_1, d.before a0 Z = true) (ws : List Jvm.Cond) {r_REF : Addr} {sw : Addr} {x_REF : Addr} {r_INP : Addr} {x_INP : Addr} {kc_sw : ClassId} (cx : Cx Z r_REF sw x_REF r_INP x_INP kc_sw) (a1 : Addr) (w2 : Int32) (h0 : Heap) (n0 : Nat) (O0 : Old Z n0 h0) (F1 : Fld Z h0 a1 "java/lang/Enum" "ordinal" "I" (.int w2)) :
    OwnMet l (⟨"java/lang/Enum", "ordinal", "()I"⟩ : MethodName) (Jvm.Cond.code (⟨"java/lang/Enum", "ordinal", "()I"⟩ : MethodName) jdk_37_method_2_code 1 (some .int) :: ws) (own_R 0 0 0 0) #[(.ref a1)] Z h0 (Q_rm2 Z a1 w2 r_REF sw x_REF r_INP x_INP kc_sw h0 n0) := by
  refine own_body (plainFor_of_name pn_2) hisR fun p e s m below meth c s₁ hx hby hml hown hnm hret hZ X0 e0 => ?_
  have N0 := Fr.nil n0
  have pre0 : ∀ t, Go p e below s₁ (mkF m 0 #[.val (.ref a1)] []) t → Go p e below s₁ (entryFrame m #[(.ref a1)] 1) t := fun t k => castTop (ef_2_R m a1) k
  have q21 := fun t (kt : Go p e below s₁ (mkF m 1 #[.val (.ref a1)] [(.ref a1)]) t) => pre0 t (by
    show Go p e below s₁ (mkF m 0 #[.val (.ref a1)] []) _
    refine XS.aloadN X0.here hx rfl (hb hby d2_0) rfl rfl ?_
    exact kt)
  obtain ⟨T22, X22, e22, st22⟩ := getF X0 hx hZ hown (host := "") (Or.inl (own_w hw 17 rfl)) Via.refl e0 F1 (g := (mkF m 1 #[.val (.ref a1)] [(.ref a1)])) rfl rfl (hb hby d2_1)
  have q23 := fun t (kt : Go p e below T22 (mkF m 4 #[.val (.ref a1)] [(.int w2)]) t) => q21 t (st22 t kt)
  exact ⟨some (.int w2), T22, _, _, _, _, X22, by decide, by decide, nofun, q23, fun fs hr => retI X22 hx hret (hb hby d2_4) hr, by rw [e22]; exact ⟨rfl, N0, rfl⟩⟩
theorem ef_3_R (m : MethodId) (x0 : Addr) : entryFrame m #[(.ref x0)] 1 = mkF m 0 #[.val (.ref x0)] [] := by first | (simp [entryFrame, mkF, argsToLocals, Value.category]; done) | rfl
theorem pn_3 : plainName "com/example/installwright/installwright/cli/ExitCode" = true := by first | (simp [plainName, overriddenIn]; done) | decide +kernel
theorem d3_0 : decode prog_1_method_4_code 0 = .ok (.aload_n 0, 1) := by decide +kernel
theorem d3_1 : decode prog_1_method_4_code 1 = .ok (.getfield 38, 3) := by decide +kernel
theorem d3_4 : decode prog_1_method_4_code 4 = .ok (.ireturn, 1) := by decide +kernel
def Q_rm3 (Z : State) (a1 : Addr) (w2 : Int32) (r_REF : Addr) (sw : Addr) (x_REF : Addr) (r_INP : Addr) (x_INP : Addr) (kc_sw : ClassId) (h0 : Heap) (n0 : Nat) (v : Option Value) (h : Heap) (L : List Loc) : Prop := v = some (.int w2) ∧ Fr n0 L ∧ h = h0
theorem rm3 (l : Launch) (Z : State) (a0 : Array Value) (hw : ∀ d ∈ tables_1, d.before a0 Z = true) (ws : List Jvm.Cond) {r_REF : Addr} {sw : Addr} {x_REF : Addr} {r_INP : Addr} {x_INP : Addr} {kc_sw : ClassId} (cx : Cx Z r_REF sw x_REF r_INP x_INP kc_sw) (a1 : Addr) (w2 : Int32) (h0 : Heap) (n0 : Nat) (O0 : Old Z n0 h0) (F1 : Fld Z h0 a1 "com/example/installwright/installwright/cli/ExitCode" "code" "I" (.int w2)) :
    OwnMet l (⟨"com/example/installwright/installwright/cli/ExitCode", "code", "()I"⟩ : MethodName) (Jvm.Cond.code (⟨"com/example/installwright/installwright/cli/ExitCode", "code", "()I"⟩ : MethodName) prog_1_method_4_code 1 (some .int) :: ws) (own_R 0 0 0 0) #[(.ref a1)] Z h0 (Q_rm3 Z a1 w2 r_REF sw x_REF r_INP x_INP kc_sw h0 n0) := by
  refine own_body (plainFor_of_name pn_3) hisR fun p e s m below meth c s₁ hx hby hml hown hnm hret hZ X0 e0 => ?_
  have N0 := Fr.nil n0
  have pre0 : ∀ t, Go p e below s₁ (mkF m 0 #[.val (.ref a1)] []) t → Go p e below s₁ (entryFrame m #[(.ref a1)] 1) t := fun t k => castTop (ef_3_R m a1) k
  have q21 := fun t (kt : Go p e below s₁ (mkF m 1 #[.val (.ref a1)] [(.ref a1)]) t) => pre0 t (by
    show Go p e below s₁ (mkF m 0 #[.val (.ref a1)] []) _
    refine XS.aloadN X0.here hx rfl (hb hby d3_0) rfl rfl ?_
    exact kt)
  obtain ⟨T22, X22, e22, st22⟩ := getF X0 hx hZ hown (host := "") (Or.inl (own_w hw 27 rfl)) Via.refl e0 F1 (g := (mkF m 1 #[.val (.ref a1)] [(.ref a1)])) rfl rfl (hb hby d3_1)
  have q23 := fun t (kt : Go p e below T22 (mkF m 4 #[.val (.ref a1)] [(.int w2)]) t) => q21 t (st22 t kt)
  exact ⟨some (.int w2), T22, _, _, _, _, X22, by decide, by decide, nofun, q23, fun fs hr => retI X22 hx hret (hb hby d3_4) hr, by rw [e22]; exact ⟨rfl, N0, rfl⟩⟩
theorem ef_1_R (m : MethodId) (x0 : Addr) : entryFrame m #[(.ref x0)] 1 = mkF m 0 #[.val (.ref x0)] [] := by first | (simp [entryFrame, mkF, argsToLocals, Value.category]; done) | rfl
theorem pn_1 : plainName "com/example/installwright/installwright/cli/ExitCode" = true := by first | (simp [plainName, overriddenIn]; done) | decide +kernel
theorem d1_0 : decode prog_1_method_5_code 0 = .ok (.getstatic 42, 3) := by decide +kernel
theorem d1_3 : decode prog_1_method_5_code 3 = .ok (.aload_n 0, 1) := by decide +kernel
theorem d1_4 : decode prog_1_method_5_code 4 = .ok (.invokevirtual 48, 3) := by decide +kernel
theorem pd_0 : parseMethodDescriptor "()I" = some ⟨[], some .int⟩ := by decide +kernel
theorem d1_7 : decode prog_1_method_5_code 7 = .ok (.iaload, 1) := by decide +kernel
theorem d1_8 : decode prog_1_method_5_code 8 = .ok (.lookupswitch 28 #[(1, 38), (2, 44)], 28) := by decide +kernel
theorem d1_46 : decode prog_1_method_5_code 46 = .ok (.getstatic 13, 3) := by decide +kernel
theorem d1_49 : decode prog_1_method_5_code 49 = .ok (.goto 6, 3) := by decide +kernel
theorem d1_55 : decode prog_1_method_5_code 55 = .ok (.areturn, 1) := by decide +kernel
def Q_rm1_REF (Z : State) (r_REF : Addr) (sw : Addr) (x_REF : Addr) (r_INP : Addr) (x_INP : Addr) (kc_sw : ClassId) (h0 : Heap) (n0 : Nat) (v : Option Value) (h : Heap) (L : List Loc) : Prop := v = some (.ref x_REF) ∧ Fr n0 L ∧ h = h0
theorem rm1_REF (l : Launch) (Z : State) (a0 : Array Value) (hw : ∀ d ∈ tables_1, d.before a0 Z = true) (ws : List Jvm.Cond) {r_REF : Addr} {sw : Addr} {x_REF : Addr} {r_INP : Addr} {x_INP : Addr} {kc_sw : ClassId} (cx : Cx Z r_REF sw x_REF r_INP x_INP kc_sw) (h0 : Heap) (n0 : Nat) (O0 : Old Z n0 h0) :
    OwnMet l (⟨"com/example/installwright/installwright/cli/ExitCode", "of", "(Lcom/example/installwright/installwright/engine/EngineException$Reason;)Lcom/example/installwright/installwright/cli/ExitCode;"⟩ : MethodName) (Jvm.Cond.code (⟨"com/example/installwright/installwright/cli/ExitCode", "of", "(Lcom/example/installwright/installwright/engine/EngineException$Reason;)Lcom/example/installwright/installwright/cli/ExitCode;"⟩ : MethodName) prog_1_method_5_code 1 (some (.object "com/example/installwright/installwright/cli/ExitCode")) :: ws) (own_R 1 0 0 13) #[(.ref r_REF)] Z h0 (Q_rm1_REF Z  r_REF sw x_REF r_INP x_INP kc_sw h0 n0) := by
  refine own_body (plainFor_of_name pn_1) hisR fun p e s m below meth c s₁ hx hby hml hown hnm hret hZ X0 e0 => ?_
  have N0 := Fr.nil n0
  have pre0 : ∀ t, Go p e below s₁ (mkF m 0 #[.val (.ref r_REF)] []) t → Go p e below s₁ (entryFrame m #[(.ref r_REF)] 1) t := fun t k => castTop (ef_1_R m r_REF) k
  obtain ⟨T21, X21, e21, st21⟩ := getS2 X0 hx hZ hown (host := "") (Or.inl (own_w hw 7 rfl)) Via.refl e0 (cx.2.2.1.ext O0.2) (g := (mkF m 0 #[.val (.ref r_REF)] [])) rfl (hb hby d1_0)
  have q22 := fun t (kt : Go p e below T21 (mkF m 3 #[.val (.ref r_REF)] [(.ref sw)]) t) => pre0 t (st21 t kt)
  have q23 := fun t (kt : Go p e below T21 (mkF m 4 #[.val (.ref r_REF)] [(.ref r_REF), (.ref sw)]) t) => q22 t (by
    show Go p e below T21 (mkF m 3 #[.val (.ref r_REF)] [(.ref sw)]) _
    refine XS.aloadN X21.here hx rfl (hb hby d1_3) rfl rfl ?_
    exact kt)
  obtain ⟨cq25, kq25, q25a, q25b, q25c⟩ := isOf hZ e21 (cx.2.1.ext O0.2)
  obtain ⟨_, _, ⟨T24, L24, k24, n24⟩, -, X24, ⟨Lc24, hQ24, l24, y24, z24⟩, st24⟩ := X21.virtualBackUp hx (x := (⟨"com/example/installwright/installwright/engine/EngineException$Reason", "ordinal", "()I"⟩ : MethodName)) (y := (⟨"java/lang/Enum", "ordinal", "()I"⟩ : MethodName)) (owner := "java/lang/Enum") hown (mvT hZ (own_w hw 10 rfl)) (mvT hZ (own_w hw 11 rfl)) (mvT hZ (own_w hw 12 rfl)) (by decide) (mvT hZ (own_w hw 14 rfl)) (mvT hZ (own_w hw 13 rfl)) (backOf (W := 1) (rm2 l Z a0 hw [] cx r_REF (0 : Int32) h0 n0 O0 (cx.2.2.2.2.2.2.2.2.2.1.ext O0.2)) hZ (own_w hw 16 rfl) (own_w hw 15 rfl) (by decide) (by decide)) q25a q25c (g := (mkF m 4 #[.val (.ref r_REF)] [(.ref r_REF), (.ref sw)])) rfl (by rw [hml]; rfl) (Steps.refl _) (argsL := []) (rest := [(.ref sw)]) (lenOf pd_0 rfl) rfl (by show 2 * 0 + _ ≤ _; exact Nat.le_of_eq rfl) (hb hby d1_4) (fun _ _ => ⟨rfl, e21, (by decide : 0 + 0 ≤ _), (by decide : 0 + 0 ≤ _)⟩)
  dsimp only [Pt.U, Pt.locs, Pt.cells, Pt.slots] at X24 l24 y24 z24 st24 hQ24
  subst l24 y24 z24
  obtain ⟨rfl, Nq24, eq24⟩ := hQ24
  have N26 := Fr.app N0 Nq24
  have q27 := fun t (kt : Go p e below T24 (mkF m 7 #[.val (.ref r_REF)] [(.int (0 : Int32)), (.ref sw)]) t) => q23 t (st24.trans kt)
  obtain ⟨c28, Ar28, -, S28, N28, H28, -⟩ := id (cx.2.2.2.2.2.2.2.2.2.2.2.2.2.ext O0.2)
  have q29 := fun t (kt : Go p e below T24 (mkF m 46 #[.val (.ref r_REF)] []) t) => q27 t (by
    show Go p e below T24 (mkF m 7 #[.val (.ref r_REF)] [(.int (0 : Int32)), (.ref sw)]) _
    refine X24.iaload hx (j := (0 : Int32)) (v := (.int (1 : Int32))) (by rw [eq24]; exact Ar28.1) (State.isArrayOf_alike hZ.alike Ar28.2.1) Ar28.2.2 (inb_of S28 ⟨by decide, by decide⟩) (Has.at H28 (inb_of S28 ⟨by decide, by decide⟩) rfl) (g := (mkF m 7 #[.val (.ref r_REF)] [(.int (0 : Int32)), (.ref sw)])) rfl rfl (hb hby d1_7) _ ?_
    show Go p e below T24 (mkF m 8 #[.val (.ref r_REF)] [(.int (1 : Int32))]) _
    refine X24.lookupswitchHit hx (g := (mkF m 8 #[.val (.ref r_REF)] [(.int (1 : Int32))])) rfl rfl (hb hby d1_8) (by decide) (a := 1) (off := 38) (by decide) (by show (0 : Int) ≤ ((8 : Nat) : Int) + 38; decide) _ ?_
    exact kt)
  obtain ⟨T30, X30, e30, st30⟩ := getS2 X24 hx hZ hown (host := "") (Or.inl (own_w hw 19 rfl)) Via.refl eq24 (cx.2.2.2.1.ext O0.2) (g := (mkF m 46 #[.val (.ref r_REF)] [])) rfl (hb hby d1_46)
  have q31 := fun t (kt : Go p e below T30 (mkF m 49 #[.val (.ref r_REF)] [(.ref x_REF)]) t) => q29 t (st30 t kt)
  have q32 := fun t (kt : Go p e below T30 (mkF m 55 #[.val (.ref r_REF)] [(.ref x_REF)]) t) => q31 t (by
    show Go p e below T30 (mkF m 49 #[.val (.ref r_REF)] [(.ref x_REF)]) _
    refine XS.goto X30.here hx rfl (pc0 := 49) (pc' := 55) rfl (hb hby d1_49) (by decide) (by decide) ?_
    exact kt)
  exact ⟨some (.ref x_REF), T30, _, _, _, _, X30, by decide, by decide, nofun, q32, fun fs hr => retOut X30 hx hret rfl (Or.inr (Or.inr (Or.inr (Or.inr ⟨rfl, rfl, rfl⟩)))) (hb hby d1_55) hr, by rw [e30]; exact ⟨rfl, N26, rfl⟩⟩
theorem d1_52 : decode prog_1_method_5_code 52 = .ok (.getstatic 16, 3) := by decide +kernel
def Q_rm1_INP (Z : State) (r_REF : Addr) (sw : Addr) (x_REF : Addr) (r_INP : Addr) (x_INP : Addr) (kc_sw : ClassId) (h0 : Heap) (n0 : Nat) (v : Option Value) (h : Heap) (L : List Loc) : Prop := v = some (.ref x_INP) ∧ Fr n0 L ∧ h = h0
theorem rm1_INP (l : Launch) (Z : State) (a0 : Array Value) (hw : ∀ d ∈ tables_1, d.before a0 Z = true) (ws : List Jvm.Cond) {r_REF : Addr} {sw : Addr} {x_REF : Addr} {r_INP : Addr} {x_INP : Addr} {kc_sw : ClassId} (cx : Cx Z r_REF sw x_REF r_INP x_INP kc_sw) (h0 : Heap) (n0 : Nat) (O0 : Old Z n0 h0) :
    OwnMet l (⟨"com/example/installwright/installwright/cli/ExitCode", "of", "(Lcom/example/installwright/installwright/engine/EngineException$Reason;)Lcom/example/installwright/installwright/cli/ExitCode;"⟩ : MethodName) (Jvm.Cond.code (⟨"com/example/installwright/installwright/cli/ExitCode", "of", "(Lcom/example/installwright/installwright/engine/EngineException$Reason;)Lcom/example/installwright/installwright/cli/ExitCode;"⟩ : MethodName) prog_1_method_5_code 1 (some (.object "com/example/installwright/installwright/cli/ExitCode")) :: ws) (own_R 1 0 0 13) #[(.ref r_INP)] Z h0 (Q_rm1_INP Z  r_REF sw x_REF r_INP x_INP kc_sw h0 n0) := by
  refine own_body (plainFor_of_name pn_1) hisR fun p e s m below meth c s₁ hx hby hml hown hnm hret hZ X0 e0 => ?_
  have N0 := Fr.nil n0
  have pre0 : ∀ t, Go p e below s₁ (mkF m 0 #[.val (.ref r_INP)] []) t → Go p e below s₁ (entryFrame m #[(.ref r_INP)] 1) t := fun t k => castTop (ef_1_R m r_INP) k
  obtain ⟨T21, X21, e21, st21⟩ := getS2 X0 hx hZ hown (host := "") (Or.inl (own_w hw 7 rfl)) Via.refl e0 (cx.2.2.1.ext O0.2) (g := (mkF m 0 #[.val (.ref r_INP)] [])) rfl (hb hby d1_0)
  have q22 := fun t (kt : Go p e below T21 (mkF m 3 #[.val (.ref r_INP)] [(.ref sw)]) t) => pre0 t (st21 t kt)
  have q23 := fun t (kt : Go p e below T21 (mkF m 4 #[.val (.ref r_INP)] [(.ref r_INP), (.ref sw)]) t) => q22 t (by
    show Go p e below T21 (mkF m 3 #[.val (.ref r_INP)] [(.ref sw)]) _
    refine XS.aloadN X21.here hx rfl (hb hby d1_3) rfl rfl ?_
    exact kt)
  obtain ⟨cq25, kq25, q25a, q25b, q25c⟩ := isOf hZ e21 (cx.2.2.2.2.2.2.1.ext O0.2)
  obtain ⟨_, _, ⟨T24, L24, k24, n24⟩, -, X24, ⟨Lc24, hQ24, l24, y24, z24⟩, st24⟩ := X21.virtualBackUp hx (x := (⟨"com/example/installwright/installwright/engine/EngineException$Reason", "ordinal", "()I"⟩ : MethodName)) (y := (⟨"java/lang/Enum", "ordinal", "()I"⟩ : MethodName)) (owner := "java/lang/Enum") hown (mvT hZ (own_w hw 10 rfl)) (mvT hZ (own_w hw 11 rfl)) (mvT hZ (own_w hw 12 rfl)) (by decide) (mvT hZ (own_w hw 14 rfl)) (mvT hZ (own_w hw 13 rfl)) (backOf (W := 1) (rm2 l Z a0 hw [] cx r_INP (1 : Int32) h0 n0 O0 (cx.2.2.2.2.2.2.2.2.2.2.2.1.ext O0.2)) hZ (own_w hw 16 rfl) (own_w hw 15 rfl) (by decide) (by decide)) q25a q25c (g := (mkF m 4 #[.val (.ref r_INP)] [(.ref r_INP), (.ref sw)])) rfl (by rw [hml]; rfl) (Steps.refl _) (argsL := []) (rest := [(.ref sw)]) (lenOf pd_0 rfl) rfl (by show 2 * 0 + _ ≤ _; exact Nat.le_of_eq rfl) (hb hby d1_4) (fun _ _ => ⟨rfl, e21, (by decide : 0 + 0 ≤ _), (by decide : 0 + 0 ≤ _)⟩)
  dsimp only [Pt.U, Pt.locs, Pt.cells, Pt.slots] at X24 l24 y24 z24 st24 hQ24
  subst l24 y24 z24
  obtain ⟨rfl, Nq24, eq24⟩ := hQ24
  have N26 := Fr.app N0 Nq24
  have q27 := fun t (kt : Go p e below T24 (mkF m 7 #[.val (.ref r_INP)] [(.int (1 : Int32)), (.ref sw)]) t) => q23 t (st24.trans kt)
  obtain ⟨c28, Ar28, -, S28, N28, H28, -⟩ := id (cx.2.2.2.2.2.2.2.2.2.2.2.2.2.ext O0.2)
  have q29 := fun t (kt : Go p e below T24 (mkF m 52 #[.val (.ref r_INP)] []) t) => q27 t (by
    show Go p e below T24 (mkF m 7 #[.val (.ref r_INP)] [(.int (1 : Int32)), (.ref sw)]) _
    refine X24.iaload hx (j := (1 : Int32)) (v := (.int (2 : Int32))) (by rw [eq24]; exact Ar28.1) (State.isArrayOf_alike hZ.alike Ar28.2.1) Ar28.2.2 (inb_of S28 ⟨by decide, by decide⟩) (Has.at H28 (inb_of S28 ⟨by decide, by decide⟩) rfl) (g := (mkF m 7 #[.val (.ref r_INP)] [(.int (1 : Int32)), (.ref sw)])) rfl rfl (hb hby d1_7) _ ?_
    show Go p e below T24 (mkF m 8 #[.val (.ref r_INP)] [(.int (2 : Int32))]) _
    refine X24.lookupswitchHit hx (g := (mkF m 8 #[.val (.ref r_INP)] [(.int (2 : Int32))])) rfl rfl (hb hby d1_8) (by decide) (a := 2) (off := 44) (by decide) (by show (0 : Int) ≤ ((8 : Nat) : Int) + 44; decide) _ ?_
    exact kt)
  obtain ⟨T30, X30, e30, st30⟩ := getS2 X24 hx hZ hown (host := "") (Or.inl (own_w hw 31 rfl)) Via.refl eq24 (cx.2.2.2.2.2.2.2.1.ext O0.2) (g := (mkF m 52 #[.val (.ref r_INP)] [])) rfl (hb hby d1_52)
  have q31 := fun t (kt : Go p e below T30 (mkF m 55 #[.val (.ref r_INP)] [(.ref x_INP)]) t) => q29 t (st30 t kt)
  exact ⟨some (.ref x_INP), T30, _, _, _, _, X30, by decide, by decide, nofun, q31, fun fs hr => retOut X30 hx hret rfl (Or.inr (Or.inr (Or.inr (Or.inr ⟨rfl, rfl, rfl⟩)))) (hb hby d1_55) hr, by rw [e30]; exact ⟨rfl, N26, rfl⟩⟩
theorem ef_0_I (m : MethodId) (x0 : Int32) : entryFrame m #[(.int x0)] maxLocals = mkF m 0 #[.val (.int x0), .unset, .unset, .unset] [] := by first | (simp [entryFrame, mkF, argsToLocals, Value.category, maxLocals]; done) | rfl
theorem pn_0 : plainName "com/example/installwright/installwright/cli/ExitCodeOfPinLaw" = true := by first | (simp [plainName, overriddenIn]; done) | decide +kernel
theorem pd_1 : parseMethodDescriptor "(Lcom/example/installwright/installwright/engine/EngineException$Reason;)Lcom/example/installwright/installwright/cli/ExitCode;" = some ⟨[(.object "com/example/installwright/installwright/engine/EngineException$Reason")], some (.object "com/example/installwright/installwright/cli/ExitCode")⟩ := by decide +kernel
def Q_rm0 (Z : State) (p1 : Int32) (r_REF : Addr) (sw : Addr) (x_REF : Addr) (r_INP : Addr) (x_INP : Addr) (kc_sw : ClassId) (h0 : Heap) (n0 : Nat) (v : Option Value) (h : Heap) (L : List Loc) : Prop := v = some (.int (1 : Int32)) ∧ Fr n0 L
theorem rm0 (l : Launch) (Z : State) (a0 : Array Value) (hw : ∀ d ∈ tables_1, d.before a0 Z = true) (ws : List Jvm.Cond) {r_REF : Addr} {sw : Addr} {x_REF : Addr} {r_INP : Addr} {x_INP : Addr} {kc_sw : ClassId} (cx : Cx Z r_REF sw x_REF r_INP x_INP kc_sw) (p1 : Int32) (h0 : Heap) (n0 : Nat) (O0 : Old Z n0 h0) :
    OwnMet l x (Jvm.Cond.code x code maxLocals ret :: ws) room_1 #[(.int p1)] Z h0 (Q_rm0 Z p1 r_REF sw x_REF r_INP x_INP kc_sw h0 n0) := by
  refine own_body (plainFor_of_name pn_0) hisR fun p e s m below meth c s₁ hx hby hml hown hnm hret hZ X0 e0 => ?_
  have N0 := Fr.nil n0
  have pre0 : ∀ t, Go p e below s₁ (mkF m 0 #[.val (.int p1), .unset, .unset, .unset] []) t → Go p e below s₁ (entryFrame m #[(.int p1)] maxLocals) t := fun t k => castTop (ef_0_I m p1) k
  have q21 := fun t (kt : Go p e below s₁ (mkF m 3 #[.val (.int p1), .unset, .unset, .unset] [(.int (p1 &&& (1 : Int32)))]) t) => pre0 t (by
    show Go p e below s₁ (mkF m 0 #[.val (.int p1), .unset, .unset, .unset] []) _
    refine XS.iloadN X0.here hx rfl (hb hby at_0) rfl ?_
    show Go p e below s₁ (mkF m 1 #[.val (.int p1), .unset, .unset, .unset] [(.int p1)]) _
    refine XS.iconst X0.here hx rfl (hb hby at_1) ?_
    show Go p e below s₁ (mkF m 2 #[.val (.int p1), .unset, .unset, .unset] [(.int (1 : Int32)), (.int p1)]) _
    refine XS.iand X0.here hx rfl (hb hby at_2) rfl ?_
    exact kt)
  by_cases hc22 : (p1 &&& (1 : Int32)) = (0 : Int32)
  · have q23 := fun t (kt : Go p e below s₁ (mkF m 16 #[.val (.int p1), .val (.int (1 : Int32)), .unset, .unset] []) t) => q21 t (by
      show Go p e below s₁ (mkF m 3 #[.val (.int p1), .unset, .unset, .unset] [(.int (p1 &&& (1 : Int32)))]) _
      refine XS.ifNo X0.here hx rfl (hb hby at_3) rfl ((if0 _ _).trans (teq hc22).2) ?_
      show Go p e below s₁ (mkF m 6 #[.val (.int p1), .unset, .unset, .unset] []) _
      refine XS.iconst X0.here hx rfl (hb hby at_6) ?_
      show Go p e below s₁ (mkF m 7 #[.val (.int p1), .unset, .unset, .unset] [(.int (1 : Int32))]) _
      refine XS.goto X0.here hx rfl (pc0 := 7) (pc' := 11) rfl (hb hby at_7) (by decide) (by decide) ?_
      show Go p e below s₁ (mkF m 11 #[.val (.int p1), .unset, .unset, .unset] [(.int (1 : Int32))]) _
      refine XS.istoreN X0.here hx rfl (hb hby at_11) rfl (l' := #[.val (.int p1), .val (.int (1 : Int32)), .unset, .unset]) rfl ?_
      show Go p e below s₁ (mkF m 12 #[.val (.int p1), .val (.int (1 : Int32)), .unset, .unset] []) _
      refine XS.iloadN X0.here hx rfl (hb hby at_12) rfl ?_
      show Go p e below s₁ (mkF m 13 #[.val (.int p1), .val (.int (1 : Int32)), .unset, .unset] [(.int (1 : Int32))]) _
      refine XS.ifNo X0.here hx rfl (hb hby at_13) rfl ((if0 _ _).trans (feq (by decide : ¬ ((1 : Int32) = (0 : Int32)))).1) ?_
      exact kt)
    obtain ⟨T24, X24, e24, st24⟩ := getS2 X0 hx hZ hown (host := "") (Or.inl (own_w hw 0 rfl)) Via.refl e0 (cx.1.ext O0.2) (g := (mkF m 16 #[.val (.int p1), .val (.int (1 : Int32)), .unset, .unset] [])) rfl (hb hby at_16)
    have q25 := fun t (kt : Go p e below T24 (mkF m 19 #[.val (.int p1), .val (.int (1 : Int32)), .unset, .unset] [(.ref r_REF)]) t) => q23 t (st24 t kt)
    have q26 := fun t (kt : Go p e below T24 (mkF m 27 #[.val (.int p1), .val (.int (1 : Int32)), .val (.ref r_REF), .unset] [(.ref r_REF)]) t) => q25 t (by
      show Go p e below T24 (mkF m 19 #[.val (.int p1), .val (.int (1 : Int32)), .unset, .unset] [(.ref r_REF)]) _
      refine XS.goto X24.here hx rfl (pc0 := 19) (pc' := 25) rfl (hb hby at_19) (by decide) (by decide) ?_
      show Go p e below T24 (mkF m 25 #[.val (.int p1), .val (.int (1 : Int32)), .unset, .unset] [(.ref r_REF)]) _
      refine XS.astoreN X24.here hx rfl (hb hby at_25) rfl rfl (l' := #[.val (.int p1), .val (.int (1 : Int32)), .val (.ref r_REF), .unset]) rfl ?_
      show Go p e below T24 (mkF m 26 #[.val (.int p1), .val (.int (1 : Int32)), .val (.ref r_REF), .unset] []) _
      refine XS.aloadN X24.here hx rfl (hb hby at_26) rfl rfl ?_
      exact kt)
    obtain ⟨_, _, ⟨T27, L27, k27, n27⟩, -, X27, ⟨Lc27, hQ27, l27, y27, z27⟩, st27⟩ := Jvm.LawKit.callS X24 hx (y := (⟨"com/example/installwright/installwright/cli/ExitCode", "of", "(Lcom/example/installwright/installwright/engine/EngineException$Reason;)Lcom/example/installwright/installwright/cli/ExitCode;"⟩ : MethodName)) hown (mvT hZ (own_w hw 3 rfl)) (mvT hZ (own_w hw 4 rfl)) (mvT hZ (own_w hw 5 rfl)) (mvT hZ (own_w hw 6 rfl)) (by decide) (backOf (W := 0) (rm1_REF l Z a0 hw [] cx  h0 n0 O0 ) hZ (own_w hw 6 rfl) (own_w hw 5 rfl) (by decide) (by decide)) (g := (mkF m 27 #[.val (.int p1), .val (.int (1 : Int32)), .val (.ref r_REF), .unset] [(.ref r_REF)])) rfl (by rw [hml]; rfl) (argsL := [(.ref r_REF)]) (rest := []) (lenOf pd_1 rfl) rfl (by show 2 * 0 + _ ≤ _; exact Nat.le_of_eq rfl) (hb hby at_27) (fun _ _ => ⟨rfl, e24, (by decide : 0 + 0 ≤ _), (by decide : 0 + 0 ≤ _)⟩)
    dsimp only [Pt.U, Pt.locs, Pt.cells, Pt.slots] at X27 l27 y27 z27 st27 hQ27
    subst l27 y27 z27
    obtain ⟨rfl, Nq27, eq27⟩ := hQ27
    have N28 := Fr.app N0 Nq27
    have q29 := fun t (kt : Go p e below T27 (mkF m 30 #[.val (.int p1), .val (.int (1 : Int32)), .val (.ref r_REF), .unset] [(.ref x_REF)]) t) => q26 t (st27 t kt)
    have q30 := fun t (kt : Go p e below T27 (mkF m 42 #[.val (.int p1), .val (.int (1 : Int32)), .val (.ref r_REF), .val (.ref x_REF)] [(.ref x_REF)]) t) => q29 t (by
      show Go p e below T27 (mkF m 30 #[.val (.int p1), .val (.int (1 : Int32)), .val (.ref r_REF), .unset] [(.ref x_REF)]) _
      refine XS.astoreN X27.here hx rfl (hb hby at_30) rfl rfl (l' := #[.val (.int p1), .val (.int (1 : Int32)), .val (.ref r_REF), .val (.ref x_REF)]) rfl ?_
      show Go p e below T27 (mkF m 31 #[.val (.int p1), .val (.int (1 : Int32)), .val (.ref r_REF), .val (.ref x_REF)] []) _
      refine XS.aloadN X27.here hx rfl (hb hby at_31) rfl rfl ?_
      show Go p e below T27 (mkF m 32 #[.val (.int p1), .val (.int (1 : Int32)), .val (.ref r_REF), .val (.ref x_REF)] [(.ref x_REF)]) _
      refine XS.ifnonnullYes X27.here hx rfl (pc0 := 32) (pc' := 37) rfl (hb hby at_32) rfl (by decide) (by decide) ?_
      show Go p e below T27 (mkF m 37 #[.val (.int p1), .val (.int (1 : Int32)), .val (.ref r_REF), .val (.ref x_REF)] []) _
      refine XS.iloadN X27.here hx rfl (hb hby at_37) rfl ?_
      show Go p e below T27 (mkF m 38 #[.val (.int p1), .val (.int (1 : Int32)), .val (.ref r_REF), .val (.ref x_REF)] [(.int (1 : Int32))]) _
      refine XS.ifNo X27.here hx rfl (hb hby at_38) rfl ((if0 _ _).trans (feq (by decide : ¬ ((1 : Int32) = (0 : Int32)))).1) ?_
      show Go p e below T27 (mkF m 41 #[.val (.int p1), .val (.int (1 : Int32)), .val (.ref r_REF), .val (.ref x_REF)] []) _
      refine XS.aloadN X27.here hx rfl (hb hby at_41) rfl rfl ?_
      exact kt)
    obtain ⟨T31, X31, e31, st31⟩ := getS2 X27 hx hZ hown (host := "") (Or.inl (own_w hw 21 rfl)) Via.refl eq27 (cx.2.2.2.1.ext O0.2) (g := (mkF m 42 #[.val (.int p1), .val (.int (1 : Int32)), .val (.ref r_REF), .val (.ref x_REF)] [(.ref x_REF)])) rfl (hb hby at_42)
    have q32 := fun t (kt : Go p e below T31 (mkF m 45 #[.val (.int p1), .val (.int (1 : Int32)), .val (.ref r_REF), .val (.ref x_REF)] [(.ref x_REF), (.ref x_REF)]) t) => q30 t (st31 t kt)
    have q33 := fun t (kt : Go p e below T31 (mkF m 49 #[.val (.int p1), .val (.int (1 : Int32)), .val (.ref r_REF), .val (.ref x_REF)] [(.ref x_REF)]) t) => q32 t (by
      show Go p e below T31 (mkF m 45 #[.val (.int p1), .val (.int (1 : Int32)), .val (.ref r_REF), .val (.ref x_REF)] [(.ref x_REF), (.ref x_REF)]) _
      refine Jvm.RoadKit.acmp (g := (mkF m 45 #[.val (.int p1), .val (.int (1 : Int32)), .val (.ref r_REF), .val (.ref x_REF)] [(.ref x_REF), (.ref x_REF)])) X31 hx rfl rfl rfl (pc0 := 45) (pc' := 48) (same := true) rfl (hb hby at_45) rfl (decide_eq_true rfl) (by decide) (by decide) ?_
      show Go p e below T31 (mkF m 48 #[.val (.int p1), .val (.int (1 : Int32)), .val (.ref r_REF), .val (.ref x_REF)] []) _
      refine XS.aloadN X31.here hx rfl (hb hby at_48) rfl rfl ?_
      exact kt)
    obtain ⟨cq35, kq35, q35a, q35b, q35c⟩ := isOf hZ e31 (cx.2.2.2.2.1.ext O0.2)
    obtain ⟨_, _, ⟨T34, L34, k34, n34⟩, -, X34, ⟨Lc34, hQ34, l34, y34, z34⟩, st34⟩ := X31.virtualBack hx (y := (⟨"com/example/installwright/installwright/cli/ExitCode", "code", "()I"⟩ : MethodName)) (z := (⟨"com/example/installwright/installwright/cli/ExitCode", "code", "()I"⟩ : MethodName)) hown (mvT hZ (own_w hw 22 rfl)) (mvT hZ (own_w hw 23 rfl)) (notFace_of_selects (args := #[]) (mvT hZ (own_w hw 25 rfl))) (mvT hZ (own_w hw 25 rfl)) (mvT hZ (own_w hw 24 rfl)) (by decide) (backOf (W := 0) (rm3 l Z a0 hw [] cx x_REF (3 : Int32) h0 n0 O0 (cx.2.2.2.2.2.2.2.2.2.2.1.ext O0.2)) hZ (own_w hw 26 rfl) (own_w hw 5 rfl) (by decide) (by decide)) q35a q35c (g := (mkF m 49 #[.val (.int p1), .val (.int (1 : Int32)), .val (.ref r_REF), .val (.ref x_REF)] [(.ref x_REF)])) rfl (by rw [hml]; rfl) (Steps.refl _) (argsL := []) (rest := []) (lenOf pd_0 rfl) rfl (by show 2 * 0 + _ ≤ _; exact Nat.le_of_eq rfl) (hb hby at_49) (fun _ _ => ⟨rfl, e31, (by decide : 0 + 0 ≤ _), (by decide : 0 + 0 ≤ _)⟩)
    dsimp only [Pt.U, Pt.locs, Pt.cells, Pt.slots] at X34 l34 y34 z34 st34 hQ34
    subst l34 y34 z34
    obtain ⟨rfl, Nq34, eq34⟩ := hQ34
    have N36 := Fr.app N28 Nq34
    have q37 := fun t (kt : Go p e below T34 (mkF m 52 #[.val (.int p1), .val (.int (1 : Int32)), .val (.ref r_REF), .val (.ref x_REF)] [(.int (3 : Int32))]) t) => q33 t (st34.trans kt)
    have q38 := fun t (kt : Go p e below T34 (mkF m 61 #[.val (.int p1), .val (.int (1 : Int32)), .val (.ref r_REF), .val (.ref x_REF)] [(.int (1 : Int32))]) t) => q37 t (by
      show Go p e below T34 (mkF m 52 #[.val (.int p1), .val (.int (1 : Int32)), .val (.ref r_REF), .val (.ref x_REF)] [(.int (3 : Int32))]) _
      refine XS.iconst X34.here hx rfl (hb hby at_52) ?_
      show Go p e below T34 (mkF m 53 #[.val (.int p1), .val (.int (1 : Int32)), .val (.ref r_REF), .val (.ref x_REF)] [(.int (3 : Int32)), (.int (3 : Int32))]) _
      refine XS.icmpNo X34.here hx rfl (hb hby at_53) rfl (teq (rfl : (3 : Int32) = (3 : Int32))).2 ?_
      show Go p e below T34 (mkF m 56 #[.val (.int p1), .val (.int (1 : Int32)), .val (.ref r_REF), .val (.ref x_REF)] []) _
      refine XS.iconst X34.here hx rfl (hb hby at_56) ?_
      show Go p e below T34 (mkF m 57 #[.val (.int p1), .val (.int (1 : Int32)), .val (.ref r_REF), .val (.ref x_REF)] [(.int (1 : Int32))]) _
      refine XS.goto X34.here hx rfl (pc0 := 57) (pc' := 61) rfl (hb hby at_57) (by decide) (by decide) ?_
      exact kt)
    exact ⟨some (.int (1 : Int32)), T34, _, _, _, _, X34, by decide, by decide, nofun, q38, fun fs hr => retN X34 hx (t := .boolean) hret (by simp) (hb hby at_61) hr, by rw [eq34]; exact ⟨rfl, N36⟩⟩
  · have q39 := fun t (kt : Go p e below s₁ (mkF m 22 #[.val (.int p1), .val (.int (0 : Int32)), .unset, .unset] []) t) => q21 t (by
      show Go p e below s₁ (mkF m 3 #[.val (.int p1), .unset, .unset, .unset] [(.int (p1 &&& (1 : Int32)))]) _
      refine XS.ifYes X0.here hx rfl (pc0 := 3) (pc' := 10) rfl (hb hby at_3) rfl ((if0 _ _).trans (feq hc22).2) (by decide) (by decide) ?_
      show Go p e below s₁ (mkF m 10 #[.val (.int p1), .unset, .unset, .unset] []) _
      refine XS.iconst X0.here hx rfl (hb hby at_10) ?_
      show Go p e below s₁ (mkF m 11 #[.val (.int p1), .unset, .unset, .unset] [(.int (0 : Int32))]) _
      refine XS.istoreN X0.here hx rfl (hb hby at_11) rfl (l' := #[.val (.int p1), .val (.int (0 : Int32)), .unset, .unset]) rfl ?_
      show Go p e below s₁ (mkF m 12 #[.val (.int p1), .val (.int (0 : Int32)), .unset, .unset] []) _
      refine XS.iloadN X0.here hx rfl (hb hby at_12) rfl ?_
      show Go p e below s₁ (mkF m 13 #[.val (.int p1), .val (.int (0 : Int32)), .unset, .unset] [(.int (0 : Int32))]) _
      refine XS.ifYes X0.here hx rfl (pc0 := 13) (pc' := 22) rfl (hb hby at_13) rfl ((if0 _ _).trans (teq (rfl : (0 : Int32) = (0 : Int32))).1) (by decide) (by decide) ?_
      exact kt)
    obtain ⟨T40, X40, e40, st40⟩ := getS2 X0 hx hZ hown (host := "") (Or.inl (own_w hw 29 rfl)) Via.refl e0 (cx.2.2.2.2.2.1.ext O0.2) (g := (mkF m 22 #[.val (.int p1), .val (.int (0 : Int32)), .unset, .unset] [])) rfl (hb hby at_22)
    have q41 := fun t (kt : Go p e below T40 (mkF m 25 #[.val (.int p1), .val (.int (0 : Int32)), .unset, .unset] [(.ref r_INP)]) t) => q39 t (st40 t kt)
    have q42 := fun t (kt : Go p e below T40 (mkF m 27 #[.val (.int p1), .val (.int (0 : Int32)), .val (.ref r_INP), .unset] [(.ref r_INP)]) t) => q41 t (by
      show Go p e below T40 (mkF m 25 #[.val (.int p1), .val (.int (0 : Int32)), .unset, .unset] [(.ref r_INP)]) _
      refine XS.astoreN X40.here hx rfl (hb hby at_25) rfl rfl (l' := #[.val (.int p1), .val (.int (0 : Int32)), .val (.ref r_INP), .unset]) rfl ?_
      show Go p e below T40 (mkF m 26 #[.val (.int p1), .val (.int (0 : Int32)), .val (.ref r_INP), .unset] []) _
      refine XS.aloadN X40.here hx rfl (hb hby at_26) rfl rfl ?_
      exact kt)
    obtain ⟨_, _, ⟨T43, L43, k43, n43⟩, -, X43, ⟨Lc43, hQ43, l43, y43, z43⟩, st43⟩ := Jvm.LawKit.callS X40 hx (y := (⟨"com/example/installwright/installwright/cli/ExitCode", "of", "(Lcom/example/installwright/installwright/engine/EngineException$Reason;)Lcom/example/installwright/installwright/cli/ExitCode;"⟩ : MethodName)) hown (mvT hZ (own_w hw 3 rfl)) (mvT hZ (own_w hw 4 rfl)) (mvT hZ (own_w hw 5 rfl)) (mvT hZ (own_w hw 6 rfl)) (by decide) (backOf (W := 0) (rm1_INP l Z a0 hw [] cx  h0 n0 O0 ) hZ (own_w hw 6 rfl) (own_w hw 5 rfl) (by decide) (by decide)) (g := (mkF m 27 #[.val (.int p1), .val (.int (0 : Int32)), .val (.ref r_INP), .unset] [(.ref r_INP)])) rfl (by rw [hml]; rfl) (argsL := [(.ref r_INP)]) (rest := []) (lenOf pd_1 rfl) rfl (by show 2 * 0 + _ ≤ _; exact Nat.le_of_eq rfl) (hb hby at_27) (fun _ _ => ⟨rfl, e40, (by decide : 0 + 0 ≤ _), (by decide : 0 + 0 ≤ _)⟩)
    dsimp only [Pt.U, Pt.locs, Pt.cells, Pt.slots] at X43 l43 y43 z43 st43 hQ43
    subst l43 y43 z43
    obtain ⟨rfl, Nq43, eq43⟩ := hQ43
    have N44 := Fr.app N0 Nq43
    have q45 := fun t (kt : Go p e below T43 (mkF m 30 #[.val (.int p1), .val (.int (0 : Int32)), .val (.ref r_INP), .unset] [(.ref x_INP)]) t) => q42 t (st43 t kt)
    have q46 := fun t (kt : Go p e below T43 (mkF m 63 #[.val (.int p1), .val (.int (0 : Int32)), .val (.ref r_INP), .val (.ref x_INP)] [(.ref x_INP)]) t) => q45 t (by
      show Go p e below T43 (mkF m 30 #[.val (.int p1), .val (.int (0 : Int32)), .val (.ref r_INP), .unset] [(.ref x_INP)]) _
      refine XS.astoreN X43.here hx rfl (hb hby at_30) rfl rfl (l' := #[.val (.int p1), .val (.int (0 : Int32)), .val (.ref r_INP), .val (.ref x_INP)]) rfl ?_
      show Go p e below T43 (mkF m 31 #[.val (.int p1), .val (.int (0 : Int32)), .val (.ref r_INP), .val (.ref x_INP)] []) _
      refine XS.aloadN X43.here hx rfl (hb hby at_31) rfl rfl ?_
      show Go p e below T43 (mkF m 32 #[.val (.int p1), .val (.int (0 : Int32)), .val (.ref r_INP), .val (.ref x_INP)] [(.ref x_INP)]) _
      refine XS.ifnonnullYes X43.here hx rfl (pc0 := 32) (pc' := 37) rfl (hb hby at_32) rfl (by decide) (by decide) ?_
      show Go p e below T43 (mkF m 37 #[.val (.int p1), .val (.int (0 : Int32)), .val (.ref r_INP), .val (.ref x_INP)] []) _
      refine XS.iloadN X43.here hx rfl (hb hby at_37) rfl ?_
      show Go p e below T43 (mkF m 38 #[.val (.int p1), .val (.int (0 : Int32)), .val (.ref r_INP), .val (.ref x_INP)] [(.int (0 : Int32))]) _
      refine XS.ifYes X43.here hx rfl (pc0 := 38) (pc' := 62) rfl (hb hby at_38) rfl ((if0 _ _).trans (teq (rfl : (0 : Int32) = (0 : Int32))).1) (by decide) (by decide) ?_
      show Go p e below T43 (mkF m 62 #[.val (.int p1), .val (.int (0 : Int32)), .val (.ref r_INP), .val (.ref x_INP)] []) _
      refine XS.aloadN X43.here hx rfl (hb hby at_62) rfl rfl ?_
      exact kt)
    obtain ⟨T47, X47, e47, st47⟩ := getS2 X43 hx hZ hown (host := "") (Or.inl (own_w hw 33 rfl)) Via.refl eq43 (cx.2.2.2.2.2.2.2.1.ext O0.2) (g := (mkF m 63 #[.val (.int p1), .val (.int (0 : Int32)), .val (.ref r_INP), .val (.ref x_INP)] [(.ref x_INP)])) rfl (hb hby at_63)
    have q48 := fun t (kt : Go p e below T47 (mkF m 66 #[.val (.int p1), .val (.int (0 : Int32)), .val (.ref r_INP), .val (.ref x_INP)] [(.ref x_INP), (.ref x_INP)]) t) => q46 t (st47 t kt)
    have q49 := fun t (kt : Go p e below T47 (mkF m 70 #[.val (.int p1), .val (.int (0 : Int32)), .val (.ref r_INP), .val (.ref x_INP)] [(.ref x_INP)]) t) => q48 t (by
      show Go p e below T47 (mkF m 66 #[.val (.int p1), .val (.int (0 : Int32)), .val (.ref r_INP), .val (.ref x_INP)] [(.ref x_INP), (.ref x_INP)]) _
      refine Jvm.RoadKit.acmp (g := (mkF m 66 #[.val (.int p1), .val (.int (0 : Int32)), .val (.ref r_INP), .val (.ref x_INP)] [(.ref x_INP), (.ref x_INP)])) X47 hx rfl rfl rfl (pc0 := 66) (pc' := 69) (same := true) rfl (hb hby at_66) rfl (decide_eq_true rfl) (by decide) (by decide) ?_
      show Go p e below T47 (mkF m 69 #[.val (.int p1), .val (.int (0 : Int32)), .val (.ref r_INP), .val (.ref x_INP)] []) _
      refine XS.aloadN X47.here hx rfl (hb hby at_69) rfl rfl ?_
      exact kt)
    obtain ⟨cq51, kq51, q51a, q51b, q51c⟩ := isOf hZ e47 (cx.2.2.2.2.2.2.2.2.1.ext O0.2)
    obtain ⟨_, _, ⟨T50, L50, k50, n50⟩, -, X50, ⟨Lc50, hQ50, l50, y50, z50⟩, st50⟩ := X47.virtualBack hx (y := (⟨"com/example/installwright/installwright/cli/ExitCode", "code", "()I"⟩ : MethodName)) (z := (⟨"com/example/installwright/installwright/cli/ExitCode", "code", "()I"⟩ : MethodName)) hown (mvT hZ (own_w hw 22 rfl)) (mvT hZ (own_w hw 23 rfl)) (notFace_of_selects (args := #[]) (mvT hZ (own_w hw 25 rfl))) (mvT hZ (own_w hw 25 rfl)) (mvT hZ (own_w hw 24 rfl)) (by decide) (backOf (W := 0) (rm3 l Z a0 hw [] cx x_INP (4 : Int32) h0 n0 O0 (cx.2.2.2.2.2.2.2.2.2.2.2.2.1.ext O0.2)) hZ (own_w hw 26 rfl) (own_w hw 5 rfl) (by decide) (by decide)) q51a q51c (g := (mkF m 70 #[.val (.int p1), .val (.int (0 : Int32)), .val (.ref r_INP), .val (.ref x_INP)] [(.ref x_INP)])) rfl (by rw [hml]; rfl) (Steps.refl _) (argsL := []) (rest := []) (lenOf pd_0 rfl) rfl (by show 2 * 0 + _ ≤ _; exact Nat.le_of_eq rfl) (hb hby at_70) (fun _ _ => ⟨rfl, e47, (by decide : 0 + 0 ≤ _), (by decide : 0 + 0 ≤ _)⟩)
    dsimp only [Pt.U, Pt.locs, Pt.cells, Pt.slots] at X50 l50 y50 z50 st50 hQ50
    subst l50 y50 z50
    obtain ⟨rfl, Nq50, eq50⟩ := hQ50
    have N52 := Fr.app N44 Nq50
    have q53 := fun t (kt : Go p e below T50 (mkF m 73 #[.val (.int p1), .val (.int (0 : Int32)), .val (.ref r_INP), .val (.ref x_INP)] [(.int (4 : Int32))]) t) => q49 t (st50.trans kt)
    have q54 := fun t (kt : Go p e below T50 (mkF m 82 #[.val (.int p1), .val (.int (0 : Int32)), .val (.ref r_INP), .val (.ref x_INP)] [(.int (1 : Int32))]) t) => q53 t (by
      show Go p e below T50 (mkF m 73 #[.val (.int p1), .val (.int (0 : Int32)), .val (.ref r_INP), .val (.ref x_INP)] [(.int (4 : Int32))]) _
      refine XS.iconst X50.here hx rfl (hb hby at_73) ?_
      show Go p e below T50 (mkF m 74 #[.val (.int p1), .val (.int (0 : Int32)), .val (.ref r_INP), .val (.ref x_INP)] [(.int (4 : Int32)), (.int (4 : Int32))]) _
      refine XS.icmpNo X50.here hx rfl (hb hby at_74) rfl (teq (rfl : (4 : Int32) = (4 : Int32))).2 ?_
      show Go p e below T50 (mkF m 77 #[.val (.int p1), .val (.int (0 : Int32)), .val (.ref r_INP), .val (.ref x_INP)] []) _
      refine XS.iconst X50.here hx rfl (hb hby at_77) ?_
      show Go p e below T50 (mkF m 78 #[.val (.int p1), .val (.int (0 : Int32)), .val (.ref r_INP), .val (.ref x_INP)] [(.int (1 : Int32))]) _
      refine XS.goto X50.here hx rfl (pc0 := 78) (pc' := 82) rfl (hb hby at_78) (by decide) (by decide) ?_
      exact kt)
    exact ⟨some (.int (1 : Int32)), T50, _, _, _, _, X50, by decide, by decide, nofun, q54, fun fs hr => retN X50 hx (t := .boolean) hret (by simp) (hb hby at_82) hr, by rw [eq50]; exact ⟨rfl, N52⟩⟩
theorem comes_1 {Post : Tables → Env → Array Value → State → Outcome → State → Prop} (hpost : ∀ tb e args s v u, (limb_1_1.after args s (.returned v) u = true ∧ limb_1_2.after args s (.returned v) u = true ∧ True) → FrameEnd s (.returned v) u (Jvm.fieldLocs frame_1_writes args s ++ Jvm.arrayLocs frame_1_arrays args s ++ Jvm.staticLocs frame_1_statics s) 0 0 → Post tb e args s (.returned v) u) :
    ArmFor flags0 classFile x code maxLocals ret World_1 tables_1 room_1 Calls_1 rest_1 Pre_1 Post := by
  intro l hfl _ _ p e ha hc hk s m args below hf hA hF happ hP
  obtain ⟨hcalls, hrest, hpre⟩ := hP
  obtain ⟨-, -, -, hnamed, -, -, -, hat⟩ := (Spec.applies_iff hf).mp happ
  obtain ⟨hg, hn⟩ := and_e (Cond.before_iff.mp (show (Jvm.Cond.and given_1 narrow_1).before args s = true from hpre))
  obtain ⟨gg1, gg2⟩ := and_e hg
  obtain ⟨w0, rfl⟩ : ∃ w0 : Value, args = #[w0] := by
    have hs : args.size = 1 := by simpa [Cond.value, given_1] using gg1
    obtain ⟨L⟩ := args
    match L, hs with
    | [w0], _ => exact ⟨w0, rfl⟩
  have hw := fun d (hd : d ∈ tables_1) => atoms_spec (ws := Jvm.Cond.code x code maxLocals ret :: tables_1) hat d (List.mem_cons_of_mem _ hd)
  have hfit : Fit s := fun {y c} hc i hi => by
    obtain ⟨ha, rfl⟩ := Array.getElem?_eq_some_iff.mp hc
    have q := List.all_eq_true.mp ((Array.all_eq_true_iff_forall_mem.mp hF) _ (Array.getElem_mem ha)) i (List.mem_range.mpr hi)
    simpa [Array.getElem?_eq_getElem hi] using q
  obtain ⟨i0, ei0⟩ := is_v gg2
  obtain rfl : w0 = (.int i0) := Option.some.inj ei0
  obtain ⟨nn1, nn2⟩ := and_e hn
  obtain ⟨nn3, nn4⟩ := and_e nn2
  obtain ⟨nn5, nn6⟩ := and_e nn4
  obtain ⟨nn7, nn8⟩ := and_e nn6
  obtain ⟨nn9, nn10⟩ := and_e nn8
  obtain ⟨nn11, nn12⟩ := and_e nn10
  obtain ⟨nn13, nn14⟩ := and_e nn12
  obtain ⟨nn15, nn16⟩ := and_e nn14
  obtain ⟨nn17, nn18⟩ := and_e nn16
  obtain ⟨nn19, nn20⟩ := and_e nn18
  obtain ⟨nn21, nn22⟩ := and_e nn20
  obtain ⟨r_REF, ev_r_REF⟩ := exa_v nn1
  obtain ⟨sw, ev_sw⟩ := arr_v nn3
  obtain ⟨cl_sw, Ar_sw⟩ := Arr.start ev_sw nn3
  obtain ⟨x_REF, ev_x_REF⟩ := exa_v nn11
  obtain ⟨r_INP, ev_r_INP⟩ := exa_v nn15
  obtain ⟨x_INP, ev_x_INP⟩ := exa_v nn21
  have ln_sw := own_lenI ev_sw Ar_sw nn5
  have V_sw : Arv s s.heap sw cl_sw.cls .int (2 : Int32) [(.int (1 : Int32)), (.int (2 : Int32))] (.int (0 : Int32)) := Arv.start hfit Ar_sw ln_sw.1 ln_sw.2 (by decide) rfl ⟨own_elI ev_sw Ar_sw (Term.int_eval (1 : Int32)) (Or.inr ⟨_, rfl⟩) nn9, own_elI ev_sw Ar_sw (Term.int_eval (2 : Int32)) (Or.inr ⟨_, rfl⟩) nn19, trivial⟩
  generalize hkc_sw : cl_sw.cls = kc_sw at V_sw
  have cx : Cx s r_REF sw x_REF r_INP x_INP kc_sw := ⟨(Sta.start ev_r_REF (Or.inr ⟨(own_w hw 1 rfl), (own_w hw 2 rfl)⟩)), (Exa.start ev_r_REF nn1), (Sta.start ev_sw (Or.inr ⟨(own_w hw 8 rfl), (own_w hw 9 rfl)⟩)), (Sta.start ev_x_REF (Or.inr ⟨(own_w hw 5 rfl), (own_w hw 20 rfl)⟩)), (Exa.start ev_x_REF nn11), (Sta.start ev_r_INP (Or.inr ⟨(own_w hw 1 rfl), (own_w hw 30 rfl)⟩)), (Exa.start ev_r_INP nn15), (Sta.start ev_x_INP (Or.inr ⟨(own_w hw 5 rfl), (own_w hw 32 rfl)⟩)), (Exa.start ev_x_INP nn21), (own_fldI ev_r_REF nn7), (own_fldI ev_x_REF nn13), (own_fldI ev_r_INP nn17), (own_fldI ev_x_INP nn22), V_sw⟩
  obtain ⟨n, o, h1, h2, h3, _, L, rfl, ⟨rfl, N⟩, hq⟩ := rm0 l s _ hw tables_1 cx i0 s.heap s.heap.size (Old.start s)  p e ha hc hk s m _ below hf ((Spec.applies_iff_loose hf).mp happ).1 ⟨rfl, State.Warmed39.refl s, rfl⟩ trivial
  refine ⟨n, _, h1, h2, h3, hpost _ _ _ _ _ _ ⟨Cond.after_iff.mpr rfl, Cond.after_iff.mpr (eq_i res_at (Term.int_eval (1)) rfl), trivial⟩ ⟨hq.1, hq.2.1, (hq.2.2.sift fun y hy => Or.inr (N y hy)).mono (by decide) (by decide)⟩⟩
theorem main_1_1 : Claimed_1_1 := comes_1 fun _ _ _ _ _ _ h hF => ⟨h.1, hF⟩
theorem main_1_2 : Claimed_1_2 := comes_1 fun _ _ _ _ _ _ h hF => ⟨h.2.1, hF⟩
end Jvm.Pilot.@@N@@
namespace Jvm.Pilot.@@N@@
open Jvm Jvm.ClassFile Sem Op Lib Jvm.Free Jvm.Stand Jvm.Pilot.@@N@@.Jvm.D
/-! MADE BY PROGRAM (witnessworld.py) out of the Statement's table words and the real class files: 14 classes; the members and pool entries that the words name. The judged class is class 1, her method 1. -/
namespace start1
open Jvm.ClassFile
def u (s : String) : CpInfo := .utf8 (stringToUtf16 s)
/-- a pool by its gaps: so many unusable entries, then the entry; so many at the end -/
def gap : Nat → List CpInfo → List CpInfo
  | 0, r => r
  | n + 1, r => .unusable :: gap n r
def poolList (es : List (Nat × CpInfo)) (last : Nat) : List CpInfo := es.foldr (fun e r => gap e.1 (e.2 :: r)) (gap last [])
def pool (es : List (Nat × CpInfo)) (last : Nat) : Array CpInfo := ⟨poolList es last⟩
def fileOf (pool : Array CpInfo) (this : Nat) (attrs : Array Attribute := #[]) (ms : Array MethodInfo := #[]) (fl : Nat := 33) (sup : Nat := 0) (ifs : Array Nat := #[]) (fds : Array FieldInfo := #[]) : ClassFile where
  minorVersion := 0
  majorVersion := 65
  constantPool := pool
  accessFlags := fl
  thisClass := this
  superClass := sup
  interfaces := ifs
  fields := fds
  methods := ms
  attributes := attrs
def plain (name : String) (sup : Option ClassId) : Class where
  name := name
  kind := .ordinary
  loader := none
  accessFlags := 33
  super := sup
  interfaces := #[]
  cf := none
  fields := #[]
  methods := #[]
  instanceTypes := #[]
  staticTypes := #[]
  resolved := #[]
  callSites := []
  init := .initialized
  statics := none
  mirror := none

def pool0 : Array CpInfo := pool [(5, u "<init>"), (0, u "()V"), (1, .class_ 10), (1, u "java/lang/Object")] 113

def k0m0 : Method := { name := "<init>", desc := "()V", sig := { parameters := [], returnType := none }, accessFlags := 1, code := none }
/-- java/lang/Object -/
def k0 : Class := { plain "java/lang/Object" none with
  accessFlags := 33
  interfaces := #[]
  cf := some (fileOf pool0 8 #[] #[{ accessFlags := 1, nameIndex := 5, descriptorIndex := 6, attributes := #[] }] 33 0 #[] #[])
  fields := #[]
  methods := #[k0m0]
  instanceTypes := #[]
  staticTypes := #[]
  resolved := Array.replicate 124 none
  statics := none }

def pool1 : Array CpInfo := pool [(2, .class_ 4), (1, u "java/lang/Object"), (0, u "<init>"), (0, u "()V"), (0, .fieldref 8 9), (0, .class_ 10), (0, .nameAndType 11 12), (0, u "com/example/installwright/installwright/engine/EngineException$Reason"), (0, u "REFUSED"), (0, u "Lcom/example/installwright/installwright/engine/EngineException$Reason;"), (0, .fieldref 8 14), (0, .nameAndType 15 12), (0, u "INPUT_UNAVAILABLE"), (0, .methodref 17 18), (0, .class_ 19), (0, .nameAndType 20 21), (0, u "com/example/installwright/installwright/cli/ExitCode"), (0, u "of"), (0, u "(Lcom/example/installwright/installwright/engine/EngineException$Reason;)Lcom/example/installwright/installwright/cli/ExitCode;"), (0, .fieldref 17 23), (0, .nameAndType 11 24), (0, u "Lcom/example/installwright/installwright/cli/ExitCode;"), (0, .methodref 17 26), (0, .nameAndType 27 28), (0, u "code"), (0, u "()I"), (0, .fieldref 17 30), (0, .nameAndType 15 24), (0, .class_ 32), (0, u "com/example/installwright/installwright/cli/ExitCodeOfPinLaw"), (2, u "law"), (0, u "(I)Z")] 7

def k1m0 : Method := { name := "<init>", desc := "()V", sig := { parameters := [], returnType := none }, accessFlags := 2, code := none }
def k1c1 : Code := { maxStack := 2, maxLocals := 4, code := code, exceptionTable := #[], attributes := #[] }
def k1m1 : Method := { name := "law", desc := "(I)Z", sig := { parameters := [.int], returnType := some .boolean }, accessFlags := 9, code := some k1c1 }
/-- com/example/installwright/installwright/cli/ExitCodeOfPinLaw -/
def k1 : Class := { plain "com/example/installwright/installwright/cli/ExitCodeOfPinLaw" (some 0) with
  accessFlags := 49
  interfaces := #[]
  cf := some (fileOf pool1 31 #[] #[{ accessFlags := 2, nameIndex := 5, descriptorIndex := 6, attributes := #[] }, { accessFlags := 9, nameIndex := 35, descriptorIndex := 36, attributes := #[] }] 49 2 #[] #[])
  fields := #[]
  methods := #[k1m0, k1m1]
  instanceTypes := #[]
  staticTypes := #[]
  resolved := Array.replicate 44 none
  statics := none }

def pool2 : Array CpInfo := pool [(1, .class_ 2), (0, u "java/lang/constant/Constable"), (0, .class_ 4), (0, u "java/lang/Object")] 6

/-- java/lang/constant/Constable -/
def k2 : Class := { plain "java/lang/constant/Constable" (some 0) with
  accessFlags := 1537
  interfaces := #[]
  cf := some (fileOf pool2 1 #[] #[] 1537 3 #[] #[])
  fields := #[]
  methods := #[]
  instanceTypes := #[]
  staticTypes := #[]
  resolved := Array.replicate 11 none
  statics := none }

def pool3 : Array CpInfo := pool [(1, .class_ 2), (0, u "java/lang/Comparable"), (0, .class_ 4), (0, u "java/lang/Object")] 7

/-- java/lang/Comparable -/
def k3 : Class := { plain "java/lang/Comparable" (some 0) with
  accessFlags := 1537
  interfaces := #[]
  cf := some (fileOf pool3 1 #[] #[] 1537 3 #[] #[])
  fields := #[]
  methods := #[]
  instanceTypes := #[]
  staticTypes := #[]
  resolved := Array.replicate 12 none
  statics := none }

def pool4 : Array CpInfo := pool [(1, .class_ 2), (0, u "java/io/Serializable"), (0, .class_ 4), (0, u "java/lang/Object")] 2

/-- java/io/Serializable -/
def k4 : Class := { plain "java/io/Serializable" (some 0) with
  accessFlags := 1537
  interfaces := #[]
  cf := some (fileOf pool4 1 #[] #[] 1537 3 #[] #[])
  fields := #[]
  methods := #[]
  instanceTypes := #[]
  staticTypes := #[]
  resolved := Array.replicate 7 none
  statics := none }

def pool5 : Array CpInfo := pool [(2, .class_ 4), (1, u "java/lang/Enum"), (0, u "name"), (0, u "Ljava/lang/String;"), (0, .fieldref 2 8), (0, .nameAndType 9 10), (0, u "ordinal"), (0, u "I"), (1, .class_ 14), (1, u "java/lang/Object"), (4, u "hash"), (86, .class_ 108), (1, u "java/lang/Enum$EnumDesc"), (2, .class_ 112), (0, u "java/lang/constant/Constable"), (0, .class_ 114), (0, u "java/lang/Comparable"), (0, .class_ 116), (0, u "java/io/Serializable"), (9, u "()I")] 77

def k5c0 : Code := { maxStack := 1, maxLocals := 1, code := jdk_37_method_2_code, exceptionTable := #[], attributes := #[] }
def k5m0 : Method := { name := "ordinal", desc := "()I", sig := { parameters := [], returnType := some .int }, accessFlags := 17, code := some k5c0 }
/-- java/lang/Enum -/
def k5 : Class := { plain "java/lang/Enum" (some 0) with
  accessFlags := 1057
  interfaces := #[2, 3, 4]
  cf := some (fileOf pool5 2 #[.nestMembers #[106]] #[{ accessFlags := 17, nameIndex := 9, descriptorIndex := 126, attributes := #[] }] 1057 12 #[111, 113, 115] #[{ accessFlags := 18, nameIndex := 5, descriptorIndex := 6, attributes := #[] }, { accessFlags := 18, nameIndex := 9, descriptorIndex := 10, attributes := #[] }, { accessFlags := 2, nameIndex := 19, descriptorIndex := 10, attributes := #[] }])
  fields := #[{ name := "name", type := (.object "java/lang/String"), accessFlags := 18, slot := 0, constantValue := 0 }, { name := "ordinal", type := .int, accessFlags := 18, slot := 1, constantValue := 0 }, { name := "hash", type := .int, accessFlags := 2, slot := 2, constantValue := 0 }]
  methods := #[k5m0]
  instanceTypes := #[(.object "java/lang/String"), .int, .int]
  staticTypes := #[]
  resolved := Array.replicate 204 none
  statics := none }

def pool6 : Array CpInfo := pool [(1, .class_ 2), (0, u "com/example/installwright/installwright/engine/EngineException$Reason"), (2, u "REFUSED"), (0, u "Lcom/example/installwright/installwright/engine/EngineException$Reason;"), (2, u "INPUT_UNAVAILABLE"), (2, u "$VALUES"), (0, u "[Lcom/example/installwright/installwright/engine/EngineException$Reason;"), (6, .class_ 22), (1, u "java/lang/Enum"), (25, .class_ 49), (0, u "com/example/installwright/installwright/engine/EngineException")] 2

/-- com/example/installwright/installwright/engine/EngineException$Reason -/
def k6 : Class := { plain "com/example/installwright/installwright/engine/EngineException$Reason" (some 5) with
  accessFlags := 16433
  interfaces := #[]
  cf := some (fileOf pool6 1 #[.nestHost 48] #[] 16433 20 #[] #[{ accessFlags := 16409, nameIndex := 5, descriptorIndex := 6, attributes := #[] }, { accessFlags := 16409, nameIndex := 9, descriptorIndex := 6, attributes := #[] }, { accessFlags := 4122, nameIndex := 12, descriptorIndex := 13, attributes := #[] }])
  fields := #[{ name := "REFUSED", type := (.object "com/example/installwright/installwright/engine/EngineException$Reason"), accessFlags := 16409, slot := 0, constantValue := 0 }, { name := "INPUT_UNAVAILABLE", type := (.object "com/example/installwright/installwright/engine/EngineException$Reason"), accessFlags := 16409, slot := 1, constantValue := 0 }, { name := "$VALUES", type := (.array (.object "com/example/installwright/installwright/engine/EngineException$Reason")), accessFlags := 4122, slot := 2, constantValue := 0 }]
  methods := #[]
  instanceTypes := #[(.object "java/lang/String"), .int, .int]
  staticTypes := #[(.object "com/example/installwright/installwright/engine/EngineException$Reason"), (.object "com/example/installwright/installwright/engine/EngineException$Reason"), (.array (.object "com/example/installwright/installwright/engine/EngineException$Reason"))]
  resolved := Array.replicate 52 none
  statics := some 0 }

def pool7 : Array CpInfo := pool [(1, .class_ 2), (0, u "com/example/installwright/installwright/cli/ExitCode"), (2, u "DONE"), (0, u "Lcom/example/installwright/installwright/cli/ExitCode;"), (2, u "INTERNAL_ERROR"), (2, u "USAGE"), (0, .fieldref 1 14), (0, .nameAndType 15 6), (0, u "REFUSED"), (0, .fieldref 1 17), (0, .nameAndType 18 6), (0, u "INPUT_UNAVAILABLE"), (2, u "$VALUES"), (0, u "[Lcom/example/installwright/installwright/cli/ExitCode;"), (6, .class_ 31), (1, u "java/lang/Enum"), (6, .fieldref 1 39), (0, .nameAndType 40 41), (0, u "code"), (0, u "I"), (0, .fieldref 43 44), (0, .class_ 45), (0, .nameAndType 46 47), (0, u "com/example/installwright/installwright/cli/ExitCode$1"), (0, u "$SwitchMap$com$example$installwright$installwright$engine$EngineException$Reason"), (0, u "[I"), (0, .methodref 49 50), (0, .class_ 51), (0, .nameAndType 52 53), (0, u "com/example/installwright/installwright/engine/EngineException$Reason"), (0, u "ordinal"), (0, u "()I"), (24, u "of"), (0, u "(Lcom/example/installwright/installwright/engine/EngineException$Reason;)Lcom/example/installwright/installwright/cli/ExitCode;")] 11

def k7c0 : Code := { maxStack := 1, maxLocals := 1, code := prog_1_method_4_code, exceptionTable := #[], attributes := #[] }
def k7m0 : Method := { name := "code", desc := "()I", sig := { parameters := [], returnType := some .int }, accessFlags := 1, code := some k7c0 }
def k7c1 : Code := { maxStack := 4, maxLocals := 1, code := prog_1_method_5_code, exceptionTable := #[], attributes := #[] }
def k7m1 : Method := { name := "of", desc := "(Lcom/example/installwright/installwright/engine/EngineException$Reason;)Lcom/example/installwright/installwright/cli/ExitCode;", sig := { parameters := [(.object "com/example/installwright/installwright/engine/EngineException$Reason")], returnType := some (.object "com/example/installwright/installwright/cli/ExitCode") }, accessFlags := 9, code := some k7c1 }
/-- com/example/installwright/installwright/cli/ExitCode -/
def k7 : Class := { plain "com/example/installwright/installwright/cli/ExitCode" (some 5) with
  accessFlags := 16433
  interfaces := #[]
  cf := some (fileOf pool7 1 #[.nestMembers #[43]] #[{ accessFlags := 1, nameIndex := 40, descriptorIndex := 53, attributes := #[] }, { accessFlags := 9, nameIndex := 78, descriptorIndex := 79, attributes := #[] }] 16433 29 #[] #[{ accessFlags := 16409, nameIndex := 5, descriptorIndex := 6, attributes := #[] }, { accessFlags := 16409, nameIndex := 9, descriptorIndex := 6, attributes := #[] }, { accessFlags := 16409, nameIndex := 12, descriptorIndex := 6, attributes := #[] }, { accessFlags := 16409, nameIndex := 15, descriptorIndex := 6, attributes := #[] }, { accessFlags := 16409, nameIndex := 18, descriptorIndex := 6, attributes := #[] }, { accessFlags := 18, nameIndex := 40, descriptorIndex := 41, attributes := #[] }, { accessFlags := 4122, nameIndex := 21, descriptorIndex := 22, attributes := #[] }])
  fields := #[{ name := "DONE", type := (.object "com/example/installwright/installwright/cli/ExitCode"), accessFlags := 16409, slot := 0, constantValue := 0 }, { name := "INTERNAL_ERROR", type := (.object "com/example/installwright/installwright/cli/ExitCode"), accessFlags := 16409, slot := 1, constantValue := 0 }, { name := "USAGE", type := (.object "com/example/installwright/installwright/cli/ExitCode"), accessFlags := 16409, slot := 2, constantValue := 0 }, { name := "REFUSED", type := (.object "com/example/installwright/installwright/cli/ExitCode"), accessFlags := 16409, slot := 3, constantValue := 0 }, { name := "INPUT_UNAVAILABLE", type := (.object "com/example/installwright/installwright/cli/ExitCode"), accessFlags := 16409, slot := 4, constantValue := 0 }, { name := "code", type := .int, accessFlags := 18, slot := 3, constantValue := 0 }, { name := "$VALUES", type := (.array (.object "com/example/installwright/installwright/cli/ExitCode")), accessFlags := 4122, slot := 5, constantValue := 0 }]
  methods := #[k7m0, k7m1]
  instanceTypes := #[(.object "java/lang/String"), .int, .int, .int]
  staticTypes := #[(.object "com/example/installwright/installwright/cli/ExitCode"), (.object "com/example/installwright/installwright/cli/ExitCode"), (.object "com/example/installwright/installwright/cli/ExitCode"), (.object "com/example/installwright/installwright/cli/ExitCode"), (.object "com/example/installwright/installwright/cli/ExitCode"), (.array (.object "com/example/installwright/installwright/cli/ExitCode"))]
  resolved := Array.replicate 91 none
  statics := some 1 }

def pool8 : Array CpInfo := pool [(8, .class_ 10), (1, u "com/example/installwright/installwright/cli/ExitCode$1"), (0, u "$SwitchMap$com$example$installwright$installwright$engine$EngineException$Reason"), (0, u "[I"), (13, .class_ 27), (0, u "java/lang/Object"), (8, .class_ 37), (0, u "com/example/installwright/installwright/cli/ExitCode")] 5

/-- com/example/installwright/installwright/cli/ExitCode$1 -/
def k8 : Class := { plain "com/example/installwright/installwright/cli/ExitCode$1" (some 0) with
  accessFlags := 4128
  interfaces := #[]
  cf := some (fileOf pool8 8 #[.nestHost 36] #[] 4128 26 #[] #[{ accessFlags := 4120, nameIndex := 11, descriptorIndex := 12, attributes := #[] }])
  fields := #[{ name := "$SwitchMap$com$example$installwright$installwright$engine$EngineException$Reason", type := (.array .int), accessFlags := 4120, slot := 0, constantValue := 0 }]
  methods := #[]
  instanceTypes := #[]
  staticTypes := #[(.array .int)]
  resolved := Array.replicate 43 none
  statics := some 2 }

def pool9 : Array CpInfo := pool [(1, u "java/lang/Cloneable"), (0, .class_ 1), (0, u "java/lang/Object"), (0, .class_ 3)] 3

/-- java/lang/Cloneable -/
def k9 : Class := { plain "java/lang/Cloneable" (some 0) with
  accessFlags := 1537
  interfaces := #[]
  cf := some (fileOf pool9 2 #[] #[] 1537 4 #[] #[])
  fields := #[]
  methods := #[]
  instanceTypes := #[]
  staticTypes := #[]
  resolved := Array.replicate 8 none
  statics := none }

/-- the primitive byte -/
def k10 : Class := { plain "byte" none with kind := .primitive 'B', accessFlags := 0x411 }
/-- [B -/
def k11 : Class := { plain "[B" (some 0) with kind := .array 10 .byte, interfaces := #[9, 4], accessFlags := 1041 }

/-- the primitive int -/
def k12 : Class := { plain "int" none with kind := .primitive 'I', accessFlags := 0x411 }
/-- [I -/
def k13 : Class := { plain "[I" (some 0) with kind := .array 12 .int, interfaces := #[9, 4], accessFlags := 1041 }

def heap : Heap := #[{ cls := 6, slots := #[.ref 3, .ref 5, .null], vm := .statics 6 },
  { cls := 7, slots := #[.null, .null, .null, .ref 4, .ref 6, .null], vm := .statics 7 },
  { cls := 8, slots := #[.ref 7], vm := .statics 8 },
  { cls := 6, slots := #[.null, .int 0, .int 0], vm := .none },
  { cls := 7, slots := #[.null, .int 0, .int 0, .int 3], vm := .none },
  { cls := 6, slots := #[.null, .int 1, .int 0], vm := .none },
  { cls := 7, slots := #[.null, .int 0, .int 0, .int 4], vm := .none },
  { cls := 13, slots := #[.int 1, .int 2], vm := .none }]
def classes : Array Class := #[k0, k1, k2, k3, k4, k5, k6, k7, k8, k9, k10, k11, k12, k13]
def interned : List (Array UInt16 × Addr) := []
def slotsUsed : Nat := 26
def theMethod : MethodId := ⟨1, 1⟩
def args0 : Array Value := #[.int 5]
def aboutOver (below : List Frame) : State where
  vm := { classes := classes, interned := interned.toArray }
  heap := heap
  slotsUsed := slotsUsed
  threads := #[{ frames := .invoking theMethod args0 :: below }]
def below0 : List Frame := [.native { method := ⟨0, 0⟩, args := #[] }]
def about1 : State := aboutOver below0
def p0 : Program := .bare "" "" ""
def e0 : Env := launch0.env 0 0 0
theorem w_frames : about1.frames = Frame.invoking theMethod args0 :: below0 := rfl
set_option maxRecDepth 65536 in
theorem w_args : argsFit about1.vm theMethod args0 = true := by decide +kernel
set_option maxRecDepth 65536 in
theorem w_heap : heapFits about1 = true := by decide +kernel
set_option maxRecDepth 65536 in
theorem w_runnable : about1.curStatus? = some .runnable := by decide +kernel
set_option maxRecDepth 65536 in
theorem w_alone : about1.alone = true := by decide +kernel
set_option maxRecDepth 65536 in
theorem w_named : about1.methodNamed? x = some theMethod := by decide +kernel
set_option maxRecDepth 65536 in
theorem w_hears : about1.hears theMethod below0 = true := by decide +kernel
set_option maxRecDepth 65536 in
theorem w_ripe : about1.ripe theMethod args0 below0 = true := by decide +kernel
theorem w_running : about1.status = .running := rfl
set_option maxRecDepth 65536 in
theorem w_room : about1.hasRoom e0.platform room_1 = true :=
  launch0.hasRoom_least _ room_1 (by decide +kernel) (by decide +kernel) (by decide +kernel) (by decide +kernel) (by decide +kernel) (by decide +kernel)
theorem allAtoms_all (ts : List Jvm.Cond) (a : Array Jvm.Value) (st : Jvm.State) : (allAtoms ts).before a st = ts.all (fun c => c.before a st) := by
  induction ts with
  | nil => rfl
  | cons c t ih =>
    show (Jvm.Cond.and c (allAtoms t)).before a st = _
    rw [Jvm.Cond.before_and, ih, List.all_cons]
def words1 : List Jvm.Cond := Jvm.Cond.code x code maxLocals ret :: tables_1
/-- a 'code' word, met by the world's own term for the bytes: nothing is compared byte by byte -/
theorem code_word {y : MethodName} {bytes : ByteArray} {mx : Nat} {rt : Option FieldType} {a : Array Value} {s : State} {m : MethodId} {meth : Method} {c : Code} (h1 : s.methodNamed? y = some m) (h2 : s.vm.method? m = some meth) (h3 : meth.code = some c) (h4 : c.code = bytes)
    (h5 : (c.maxLocals == mx && c.exceptionTable.isEmpty && decide (c.maxStack ≤ mostOperands) && decide (meth.sig.returnType = rt) && !meth.locks && decide (parseMethodDescriptor y.desc = some meth.sig)) = true) : (Jvm.Cond.code y bytes mx rt).before a s = true := by
  simp only [Bool.and_eq_true, beq_iff_eq, Bool.not_eq_true', decide_eq_true_eq] at h5
  obtain ⟨⟨⟨⟨⟨g1, g2⟩, g3⟩, g4⟩, g5⟩, g6⟩ := h5
  simp [Cond.before, Cond.holds, Cond.value, h1, h2, h3, h4, g1, g2, g3, g4, g5, g6]
def isCode : Jvm.Cond → Bool
  | .code _ _ _ _ => true
  | _ => false
theorem all_split {L : List Jvm.Cond} {P : Jvm.Cond → Bool} (h1 : L.all (fun c => isCode c || P c) = true) (h2 : ∀ c ∈ L.filter isCode, P c = true) : L.all P = true := by
  refine List.all_eq_true.mpr fun c hc => ?_
  have h := List.all_eq_true.mp h1 c hc
  rcases Bool.eq_false_or_eq_true (isCode c) with hi | hi
  · exact h2 c (List.mem_filter.mpr ⟨hc, hi⟩)
  · simpa [hi] using h
set_option maxRecDepth 65536 in
theorem w_c0 : (Jvm.Cond.code x code maxLocals ret).before args0 about1 = true := code_word (m := ⟨1, 1⟩) (meth := k1m1) (c := k1c1) (by decide +kernel) rfl rfl rfl (by decide +kernel)
set_option maxRecDepth 65536 in
theorem w_c1 : (Jvm.Cond.code ({ cls := "com/example/installwright/installwright/cli/ExitCode", name := "of", desc := "(Lcom/example/installwright/installwright/engine/EngineException$Reason;)Lcom/example/installwright/installwright/cli/ExitCode;" } : Jvm.MethodName) prog_1_method_5_code (1 : Nat) (Option.some (Jvm.ClassFile.FieldType.object "com/example/installwright/installwright/cli/ExitCode"))).before args0 about1 = true := code_word (m := ⟨7, 1⟩) (meth := k7m1) (c := k7c1) (by decide +kernel) rfl rfl rfl (by decide +kernel)
set_option maxRecDepth 65536 in
theorem w_c2 : (Jvm.Cond.code ({ cls := "java/lang/Enum", name := "ordinal", desc := "()I" } : Jvm.MethodName) jdk_37_method_2_code (1 : Nat) (Option.some Jvm.ClassFile.FieldType.int)).before args0 about1 = true := code_word (m := ⟨5, 0⟩) (meth := k5m0) (c := k5c0) (by decide +kernel) rfl rfl rfl (by decide +kernel)
set_option maxRecDepth 65536 in
theorem w_c3 : (Jvm.Cond.code ({ cls := "com/example/installwright/installwright/cli/ExitCode", name := "code", desc := "()I" } : Jvm.MethodName) prog_1_method_4_code (1 : Nat) (Option.some Jvm.ClassFile.FieldType.int)).before args0 about1 = true := code_word (m := ⟨7, 0⟩) (meth := k7m0) (c := k7c0) (by decide +kernel) rfl rfl rfl (by decide +kernel)
def codes1 : List Jvm.Cond := [Jvm.Cond.code x code maxLocals ret, Jvm.Cond.code ({ cls := "com/example/installwright/installwright/cli/ExitCode", name := "of", desc := "(Lcom/example/installwright/installwright/engine/EngineException$Reason;)Lcom/example/installwright/installwright/cli/ExitCode;" } : Jvm.MethodName) prog_1_method_5_code (1 : Nat) (Option.some (Jvm.ClassFile.FieldType.object "com/example/installwright/installwright/cli/ExitCode")), Jvm.Cond.code ({ cls := "java/lang/Enum", name := "ordinal", desc := "()I" } : Jvm.MethodName) jdk_37_method_2_code (1 : Nat) (Option.some Jvm.ClassFile.FieldType.int), Jvm.Cond.code ({ cls := "com/example/installwright/installwright/cli/ExitCode", name := "code", desc := "()I" } : Jvm.MethodName) prog_1_method_4_code (1 : Nat) (Option.some Jvm.ClassFile.FieldType.int)]
set_option maxRecDepth 65536 in
theorem codes_eq : words1.filter isCode = codes1 := rfl
theorem w_codes : ∀ c ∈ words1.filter isCode, c.before args0 about1 = true := by
  rw [codes_eq]
  intro c hc
  simp only [codes1, List.mem_cons, List.not_mem_nil, or_false] at hc
  rcases hc with rfl | rfl | rfl | rfl
  · exact w_c0
  · exact w_c1
  · exact w_c2
  · exact w_c3
set_option maxRecDepth 65536 in
theorem w_t1 : (words1.take 24).all (fun c => isCode c || c.before args0 about1) = true := by decide +kernel
set_option maxRecDepth 65536 in
theorem w_t2 : (words1.drop 24).all (fun c => isCode c || c.before args0 about1) = true := by decide +kernel
theorem w_tables : (allAtoms (Jvm.Cond.code x code maxLocals ret :: tables_1)).before args0 about1 = true := by
  rw [allAtoms_all]
  show words1.all (fun c => c.before args0 about1) = true
  refine all_split ?_ w_codes
  rw [← List.take_append_drop 24 words1, List.all_append, w_t1, w_t2]
  rfl
set_option maxRecDepth 65536 in
theorem w_case : (Jvm.Cond.and given_1 narrow_1).before args0 about1 = true := by decide +kernel
theorem w_applies : (headSpec (Jvm.Cond.code x code maxLocals ret :: tables_1) room_1).applies x e0.platform about1 = true :=
  (Spec.applies_iff w_frames).mpr ⟨w_running, w_runnable, w_alone, w_named, w_hears, w_ripe, w_room, w_tables⟩
theorem atStart : AtStart classFile x code maxLocals ret World_1 tables_1 room_1 Calls_1 rest_1 Pre_1 launch0 p0 e0 about1 theMethod args0 below0 :=
  ⟨lists_1, trivial, launch0.admits_env _ _ _, launch0.least_env, fairChoices_fair.cas, fairChoices_fair.clock, w_frames, w_args, w_heap, w_applies, trivial, trivial, w_case⟩
end start1
theorem witness_1 : WitnessClaimed_1 := ⟨start1.p0, start1.e0, start1.about1, start1.theMethod, start1.args0, start1.below0, start1.atStart⟩
end Jvm.Pilot.@@N@@
