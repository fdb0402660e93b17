import JvmDerived
import JvmDerived.Pilot.@@N@@Statement
import JvmDerived.Pilot.@@N@@Code
set_option linter.unusedVariables false
set_option linter.unusedSimpArgs false
set_option maxRecDepth 65536
set_option maxHeartbeats 40000000
namespace Jvm.RoadKit
open Sem ClassFile Op Lib Jvm.Stand Jvm.Free Jvm.LawKit
section New
variable {p : Program} {l : Launch} {e : Env} {R : Room} {s : State} {m : MethodId} {args : Array Value} {below : List Frame} {meth : Method} {c : Code} {T : State} {locs : List Loc} {cells slots : Nat}
theorem retI (X : Stand p l e R s m args below meth c T locs cells slots) (hx : p.tables.exec = Jvm.exec) {pc : Nat} {Ls : Array Slot} {z : Int32} {rest : List Value} (hret : meth.sig.returnType = some .int) (hd : decode c.code pc = .ok (.ireturn, 1)) {fs : List Frame}
    (hl : ∀ (f : JFrame) (acts : List Action), f.method = m → f.locked = none → f.entered = [] → (doReturn e (T.setTop f) acts (some (.int z))).1 = T.setFrames fs) : Steps p.tables e below (T.setTop (mkF m pc Ls (.int z :: rest))) (T.setFrames fs) := by
  have hm' : T.vm.method? m = some meth := X.method'
  have hn : narrow .int (.int z) = .int z := rfl
  show Steps p.tables e below (T.setTop { method := m, pc := pc, locals := Ls, stack := _ :: rest, locked := none }) _
  jvm_step X.here [X.here.top, hx, hd, hm', hret, hn]
  first | (intro acts; rw [hl _ acts rfl rfl rfl]) | rw [hl _ _ rfl rfl rfl]
  exact Steps.refl _
end New
end Jvm.RoadKit
namespace Jvm.Pilot.@@N@@
open Jvm Jvm.ClassFile Sem Op Lib Jvm.Free Jvm.Stand Jvm.LawKit Jvm.RoadKit Bundle Jvm.Pilot.@@N@@.Jvm.D
theorem own_w {Z : State} {a0 : Array Value} (hw : ∀ d ∈ tables_1, d.before a0 Z = true) (k : Nat) {d : Jvm.Cond} (h : tables_1[k]? = some d) : d.before a0 Z = true := hw _ (List.mem_of_getElem? h)
abbrev own_R (f c s l : Nat) : Room := { frames := f, cells := c, slots := s, locals := l }
abbrev vU : Slot := .unset
abbrev vS : Slot := .second
abbrev vN : Slot := .val .null
abbrev vI (x : Int32) : Slot := .val (.int x)
abbrev vJ (x : Int64) : Slot := .val (.long x)
abbrev vR (x : Addr) : Slot := .val (.ref x)
abbrev vV (x : Value) : Slot := .val x
abbrev Go (p : Program) (e : Env) (below : List Frame) (T : State) (f : JFrame) (t : State) : Prop := Steps p.tables e below (T.setTop f) t
theorem own_and255L (x : Int32) : ¬ (x &&& (255 : Int32)) < 0 ∧ ¬ (255 : Int32) < (x &&& (255 : Int32)) := by
  have h1 := c_mask x 255 8 (by decide) (by decide)
  have e1 : (255 : Int32).toInt = 255 := rfl
  rw [Int32.lt_iff_toInt_lt, Int32.lt_iff_toInt_lt, Int32.toInt_zero]
  constructor <;> omega
theorem own_narR {v : Value} (t : FieldType) (ht : t.isReference = true) (hv : v.isRef = true) : narrow t v = v := by cases t <;> cases v <;> simp_all [narrow, FieldType.isReference, Value.isRef]
abbrev OwnMet (l : Launch) (y : MethodName) (ws : List Jvm.Cond) (rm : Room) (A : Array Value) (Z : State) (h0 : Heap) (Q : Option Value → Heap → List Loc → Prop) : Prop :=
  MetFree l y (head1 ws rm) (fun a U => a = A ∧ Z.Warmed39 U.vm ∧ U.heap = h0) (fun _ _ _ _ _ => True) (fun _ U o U' => ∃ v L, o = .returned v ∧ Q v U'.heap L ∧ FrameEnd U o U' L rm.cells rm.slots)
theorem own_body {l : Launch} {y : MethodName} {ws : List Jvm.Cond} {rm : Room} {bytes : ByteArray} {maxL : Nat} {ret : Option FieldType} {A : Array Value} {Z : State} {h0 : Heap} {Q : Option Value → Heap → List Loc → Prop} (hp : plainFor y = true)
    (his : ∀ args (s : State) m, (head1 ws rm).pre.before args s = true → s.methodNamed? y = some m → ∃ meth c, s.vm.method? m = some meth ∧ meth.code = some c ∧ c.code = bytes ∧ c.maxLocals = maxL ∧ meth.sig.returnType = ret ∧ meth.locks = false)
    (body : ∀ (p : Program) (e : Env) (s : State) (m : MethodId) (below : List Frame) (meth : Method) (c : Code) (s₁ : State), p.tables.exec = Jvm.exec → c.code = bytes → c.maxLocals = maxL → s.vm.findClass y.cls = some m.cls → meth.name = y.name → meth.sig.returnType = ret → Z.Warmed39 s.vm → Stand p l e rm s m A below meth c s₁ [] 0 0 → s₁.heap = h0 →
      ∃ (v : Option Value) (T : State) (locs : List Loc) (cells slots : Nat) (f : JFrame), Stand p l e rm s m A below meth c T locs cells slots ∧ cells ≤ rm.cells ∧ slots ≤ rm.slots ∧ (ret = none → v = none) ∧ (∀ t, Go p e below T f t → Go p e below s₁ (entryFrame m A maxL) t) ∧
        (∀ fs, (∀ (f : JFrame) (acts : List Action), f.method = m → f.locked = none → f.entered = [] → (doReturn e (T.setTop f) acts v).1 = T.setFrames fs) → Go p e below T f (T.setFrames fs)) ∧ Q v T.heap locs) :
    MetFree l y (head1 ws rm) (fun a U => a = A ∧ Z.Warmed39 U.vm ∧ U.heap = h0) (fun _ _ _ _ _ => True) (fun _ U o U' => ∃ v L, o = .returned v ∧ Q v U'.heap L ∧ FrameEnd U o U' L rm.cells rm.slots) := by
  refine MetFree.of_bodySF hp his ?_
  intro p e s m args below meth c s₁ Bd hml0 hP hK
  obtain ⟨rfl, hZ, hh⟩ := hP
  obtain ⟨v, T, locs, cells, slots, f, X, hc, hs, hv, q, hf, hQ⟩ := body p e s m below meth c s₁ Bd.exec Bd.bytes hml0 (findClass_of_methodNamed Bd.named) (name_of_methodNamed Bd.named Bd.method).1 Bd.returns hZ (Stand.of_body Bd) (by rw [← hh, Bd.state]; rfl)
  obtain ⟨fs, hr, hrun, hended, hW, hsame⟩ := X.leave (v := v) (fun h => hv (Bd.returns ▸ h))
  exact ⟨_, _, q _ (hf fs hr), hrun, hended, v, locs, rfl, hQ, ⟨_, rfl⟩, hW, hsame.mono hc hs⟩
theorem own_eqI {args : Array Value} {Z : State} {t : Term} {k : Int32} (h : (Jvm.Cond.eq t (Term.int k)).value args Z none Z [] = some true) : t.eval args Z none [] Z = some (.int k) := by
  obtain ⟨x, y, e1, e2, k1, k2⟩ := cmp_v (Or.inl h)
  rw [Term.int_eval] at e2; cases Option.some.inj e2
  cases x <;> first | (obtain ⟨z, hz⟩ := k2; cases hz; simp [Cond.value, e1, Term.int_eval] at h; rw [e1, h]) | (obtain ⟨z, hz⟩ := k2; cases hz)
theorem own_fldI {args : Array Value} {Z : State} {t : Term} {k : Int32} {C n d : String} {w : Addr} (ht : t.eval args Z none [] Z = some (.ref w)) (h : (Jvm.Cond.eq (Term.field t C n d) (Term.int k)).value args Z none Z [] = some true) : Fld Z Z.heap w C n d (.int k) :=
  Fld.start ((fld_at ht).symm.trans (own_eqI h))
theorem own_lenI {args : Array Value} {Z : State} {t : Term} {k : Int32} {x : Addr} {cl : Cell} {ty : FieldType} (ht : t.eval args Z none [] Z = some (.ref x)) (A : Arr Z Z.heap x cl ty) (h : (Jvm.Cond.eq (Term.length t) (Term.int k)).value args Z none Z [] = some true) : cl.slots.size < 2 ^ 31 ∧ cl.slots.size.toInt32 = k := by
  obtain ⟨b, cell, e1, e2, e3, e4⟩ := Jvm.Lib.length_spec (own_eqI h)
  have eb : b = x := Value.ref.inj (Option.some.inj (e1.symm.trans ht))
  rw [eb] at e2
  have ec : cell = cl := Option.some.inj (e2.symm.trans (Arr.fin (Vm.Alike.refl _) A))
  rw [ec] at e3 e4
  exact ⟨e3, (Value.int.inj e4).symm⟩
theorem own_elI {args : Array Value} {Z : State} {t u : Term} {j : Int32} {x : Addr} {cl : Cell} {ty : FieldType} {v : Value} (ht : t.eval args Z none [] Z = some (.ref x)) (A : Arr Z Z.heap x cl ty) (hu : u.eval args Z none [] Z = some v) (hv : v.isRef = true ∨ ∃ z, v = .int z) (h : (Jvm.Cond.eq (Term.elem t (Term.int j)) u).value args Z none Z [] = some true) : cl.slots[j.toNatClampNeg]? = some v := by
  obtain ⟨a, b, e1, e2, k1, k2⟩ := cmp_v (Or.inl h)
  cases Option.some.inj (e2.symm.trans hu)
  have q := (elem_in e1 ht (Term.int_eval j) A.1).2
  have e : a = v := by
    rcases hv with hv | ⟨z, rfl⟩
    · have ha : a.isRef = true := by cases v <;> simp [Kin, Value.isRef] at k2 hv ⊢ <;> exact k2
      exact gotT (eq_R e1 e2 ha hv) h
    · obtain ⟨z', rfl⟩ := k2
      have := gotT (Cond.eq_ints e1 e2) h
      rw [this]
  rw [← e]; exact q

def Cx (Z : State) (w_REGISTRAR : Addr) (w_VAL : Addr) (w_PROXY : Addr) (kc_w_VAL : ClassId) : Prop := Sta Z Z.heap "com/example/vouchsafe/bearer/Role" "REGISTRAR" "Lcom/example/vouchsafe/bearer/Role;" (.ref w_REGISTRAR) ∧ Exa Z Z.heap w_REGISTRAR "com/example/vouchsafe/bearer/Role" ∧ Sta Z Z.heap "com/example/vouchsafe/bearer/Role" "$VALUES" "[Lcom/example/vouchsafe/bearer/Role;" (.ref w_VAL) ∧ Exa Z Z.heap w_VAL "[Lcom/example/vouchsafe/bearer/Role;" ∧ Sta Z Z.heap "com/example/vouchsafe/bearer/Role" "PROXY" "Lcom/example/vouchsafe/bearer/Role;" (.ref w_PROXY) ∧ Exa Z Z.heap w_PROXY "com/example/vouchsafe/bearer/Role" ∧ Fld Z Z.heap w_REGISTRAR "com/example/vouchsafe/bearer/Role" "status" "I" (.int (401 : Int32)) ∧ Fld Z Z.heap w_PROXY "com/example/vouchsafe/bearer/Role" "status" "I" (.int (407 : Int32)) ∧ Arv Z Z.heap w_VAL kc_w_VAL (.object "com/example/vouchsafe/bearer/Role") (2 : Int32) [(.ref w_REGISTRAR), (.ref w_PROXY)] .null ∧ ∃ cl : Cell, Arr Z Z.heap w_VAL cl (.object "com/example/vouchsafe/bearer/Role") ∧ FitC Z cl ∧ cl.slots.size = 2 ∧ cl.slots[0]? = some (.ref w_REGISTRAR) ∧ cl.slots[1]? = some (.ref w_PROXY)
theorem own_two {Z : State} {h : Heap} {b : Addr} {cl : Cell} {ty : FieldType} {u v : Addr} (A : Arr Z h b (cloneOf cl) ty) (hty : ty.isReference = true) (S : cl.slots.size = 2) (h0 : cl.slots[0]? = some (.ref u)) (h1 : cl.slots[1]? = some (.ref v)) : Arv Z h b cl.cls ty (2 : Int32) [(.ref u), (.ref v)] .null := by
  refine ⟨cloneOf cl, A, rfl, S, by decide, fun k hk => ?_, fun i hi => ?_⟩
  · have hk' : k < 2 := S ▸ hk
    match k, hk' with
    | 0, _ => exact h0
    | 1, _ => exact h1
  · have hk' : i < 2 := S ▸ hi
    match i, hk' with
    | 0, _ => cases ty <;> first | rfl | cases hty
    | 1, _ => cases ty <;> first | rfl | cases hty
theorem ef_2_ (m : MethodId) : entryFrame m #[] 0 = mkF m 0 #[] [] := by first | (simp [entryFrame, mkF, argsToLocals, Value.category]; done) | rfl
theorem pn_2 : plainName "com/example/vouchsafe/bearer/Role" = true := by first | (simp [plainName, overriddenIn]; done) | decide +kernel
theorem d2_0 : decode prog_7_method_1_code 0 = .ok (.getstatic 10, 3) := by decide +kernel
theorem d2_3 : decode prog_7_method_1_code 3 = .ok (.invokevirtual 14, 3) := by decide +kernel
theorem d2_6 : decode prog_7_method_1_code 6 = .ok (.checkcast 15, 3) := by decide +kernel
theorem d2_9 : decode prog_7_method_1_code 9 = .ok (.areturn, 1) := by decide +kernel
def Q_rm2 (Z : State) (w_REGISTRAR : Addr) (w_VAL : Addr) (w_PROXY : Addr) (kc_w_VAL : ClassId) (h0 : Heap) (n0 : Nat) (v : Option Value) (h : Heap) (L : List Loc) : Prop := ∃ (b : Addr) (kb : ClassId), v = some (.ref b) ∧ Fr n0 L ∧ Keep h0 h [] ∧ h0.size ≤ b ∧ Arv Z h b kb (.object "com/example/vouchsafe/bearer/Role") (2 : Int32) [(.ref w_REGISTRAR), (.ref w_PROXY)] .null
theorem rm2 (l : Launch) (Z : State) (a0 : Array Value) (hw : ∀ d ∈ tables_1, d.before a0 Z = true) (ws : List Jvm.Cond) {w_REGISTRAR : Addr} {w_VAL : Addr} {w_PROXY : Addr} {kc_w_VAL : ClassId} (cx : Cx Z w_REGISTRAR w_VAL w_PROXY kc_w_VAL) (h0 : Heap) (n0 : Nat) (O0 : Old Z n0 h0) :
    OwnMet l (⟨"com/example/vouchsafe/bearer/Role", "values", "()[Lcom/example/vouchsafe/bearer/Role;"⟩ : MethodName) (Jvm.Cond.code (⟨"com/example/vouchsafe/bearer/Role", "values", "()[Lcom/example/vouchsafe/bearer/Role;"⟩ : MethodName) prog_7_method_1_code 0 (some (.array (.object "com/example/vouchsafe/bearer/Role"))) :: ws) (own_R 1 1 2 14) #[] Z h0 (Q_rm2 Z  w_REGISTRAR w_VAL w_PROXY kc_w_VAL h0 n0) := by
  refine own_body (plainFor_of_name pn_2) hisR fun p e s m below meth c s₁ hx hby hml hown hnm hret hZ X0 e0 => ?_
  have N0 := Fr.nil n0
  have K0 : Keep h0 h0 [] := Keep.refl _ _
  have pre0 : ∀ t, Go p e below s₁ (mkF m 0 #[] []) t → Go p e below s₁ (entryFrame m #[] 0) t := fun t k => castTop (ef_2_ m ) k
  obtain ⟨T21, X21, e21, st21⟩ := getS2 X0 hx hZ hown (host := "") (Or.inl (own_w hw 9 rfl)) Via.refl e0 (cx.2.2.1.ext O0.2) (g := (mkF m 0 #[] [])) rfl (hb hby d2_0)
  have q22 := fun t (kt : Go p e below T21 (mkF m 3 #[] [(.ref w_VAL)]) t) => pre0 t (st21 t kt)
  obtain ⟨clv, Acv, Fcv, Scv, H0v, H1v⟩ := cx.2.2.2.2.2.2.2.2.2
  obtain ⟨T23, h23, X23, e23, E23, A23, B23, st23⟩ := cloneA X21 hx hZ hown (own_w hw 11 rfl) (own_w hw 12 rfl) (own_w hw 16 rfl) (own_w hw 14 rfl) (own_w hw 15 rfl) (own_w hw 17 rfl) e21 (Acv.ext O0.2) (cx.2.2.2.1.ext O0.2) Fcv (g := (mkF m 3 #[] [(.ref w_VAL)])) rfl (by rw [hml]; rfl) rfl (hb hby d2_3) (by decide) (W := 0) (cap := 2) (by show 2 * 0 + _ ≤ _; exact Nat.le_of_eq rfl) (by decide) (Nat.le_of_eq Scv) (by decide) (by decide)
  obtain ⟨b23, g23⟩ : ∃ z, z = h0.size := ⟨_, rfl⟩
  rw [← g23] at A23 B23 st23
  have gg24 : n0 ≤ b23 := Nat.le_trans (O0.1 ▸ O0.2.1) (Nat.le_of_eq g23.symm)
  have sz25 : h0.size ≤ b23 := Nat.le_trans K0.1 (Nat.le_of_eq g23.symm)
  have q26 := fun t (kt : Go p e below T23 (mkF m 6 #[] [(.ref b23)]) t) => q22 t (st23 t kt)
  have O27 : Old Z n0 h23 := O0.ext E23
  have K28 : Keep h0 h23 [] := K0.ext E23
  have V23 := own_two A23 rfl Scv H0v H1v
  obtain ⟨T29, X29, e29, st29⟩ := castY X23 hx hZ hown (own_w hw 20 rfl) e23 (Ins.self B23) (g := (mkF m 6 #[] [(.ref b23)])) rfl rfl (hb hby d2_6)
  have q30 := fun t (kt : Go p e below T29 (mkF m 9 #[] [(.ref b23)]) t) => q26 t (st29 t kt)
  exact ⟨some (.ref b23), T29, _, _, _, _, X29, by decide, by decide, nofun, q30, fun fs hr => retOut X29 hx hret rfl (Or.inr (Or.inr (Or.inr (Or.inr ⟨rfl, rfl, rfl⟩)))) (hb hby d2_9) hr, by rw [e29]; exact ⟨b23, clv.cls, rfl, N0, K28, sz25, V23⟩⟩
theorem ef_1_I (m : MethodId) (x0 : Int32) : entryFrame m #[(.int x0)] 5 = mkF m 0 #[.val (.int x0), .unset, .unset, .unset, .unset] [] := by first | (simp [entryFrame, mkF, argsToLocals, Value.category]; done) | rfl
theorem pn_1 : plainName "com/example/vouchsafe/bearer/Role" = true := by first | (simp [plainName, overriddenIn]; done) | decide +kernel
theorem d1_0 : decode prog_7_method_4_code 0 = .ok (.invokestatic 40, 3) := by decide +kernel
theorem pd_0 : parseMethodDescriptor "()[Lcom/example/vouchsafe/bearer/Role;" = some ⟨[], some (.array (.object "com/example/vouchsafe/bearer/Role"))⟩ := by decide +kernel
theorem d1_3 : decode prog_7_method_4_code 3 = .ok (.astore_n 1, 1) := by decide +kernel
theorem d1_4 : decode prog_7_method_4_code 4 = .ok (.aload_n 1, 1) := by decide +kernel
theorem d1_5 : decode prog_7_method_4_code 5 = .ok (.arraylength, 1) := by decide +kernel
theorem d1_6 : decode prog_7_method_4_code 6 = .ok (.istore_n 2, 1) := by decide +kernel
theorem d1_7 : decode prog_7_method_4_code 7 = .ok (.iconst 0, 1) := by decide +kernel
theorem d1_8 : decode prog_7_method_4_code 8 = .ok (.istore_n 3, 1) := by decide +kernel
theorem d1_9 : decode prog_7_method_4_code 9 = .ok (.iload_n 3, 1) := by decide +kernel
theorem d1_10 : decode prog_7_method_4_code 10 = .ok (.iload_n 2, 1) := by decide +kernel
theorem d1_11 : decode prog_7_method_4_code 11 = .ok (.if_icmp .ge 26, 3) := by decide +kernel
theorem d1_14 : decode prog_7_method_4_code 14 = .ok (.aload_n 1, 1) := by decide +kernel
theorem d1_15 : decode prog_7_method_4_code 15 = .ok (.iload_n 3, 1) := by decide +kernel
theorem d1_16 : decode prog_7_method_4_code 16 = .ok (.aaload, 1) := by decide +kernel
theorem d1_17 : decode prog_7_method_4_code 17 = .ok (.astore 4, 2) := by decide +kernel
theorem d1_19 : decode prog_7_method_4_code 19 = .ok (.aload 4, 2) := by decide +kernel
theorem d1_21 : decode prog_7_method_4_code 21 = .ok (.getfield 29, 3) := by decide +kernel
theorem d1_24 : decode prog_7_method_4_code 24 = .ok (.iload_n 0, 1) := by decide +kernel
theorem d1_25 : decode prog_7_method_4_code 25 = .ok (.if_icmp .ne 6, 3) := by decide +kernel
theorem d1_28 : decode prog_7_method_4_code 28 = .ok (.aload 4, 2) := by decide +kernel
theorem d1_30 : decode prog_7_method_4_code 30 = .ok (.areturn, 1) := by decide +kernel
def Q_rm1_0 (Z : State) (p1 : Int32) (w_REGISTRAR : Addr) (w_VAL : Addr) (w_PROXY : Addr) (kc_w_VAL : ClassId) (h0 : Heap) (n0 : Nat) (v : Option Value) (h : Heap) (L : List Loc) : Prop := v = some (.ref w_REGISTRAR) ∧ Fr n0 L ∧ Keep h0 h []
theorem rm1_0 (l : Launch) (Z : State) (a0 : Array Value) (hw : ∀ d ∈ tables_1, d.before a0 Z = true) (ws : List Jvm.Cond) {w_REGISTRAR : Addr} {w_VAL : Addr} {w_PROXY : Addr} {kc_w_VAL : ClassId} (cx : Cx Z w_REGISTRAR w_VAL w_PROXY kc_w_VAL) (p1 : Int32) (h0 : Heap) (n0 : Nat) (O0 : Old Z n0 h0) (hp : p1 = (401 : Int32)) :
    OwnMet l (⟨"com/example/vouchsafe/bearer/Role", "challengedWith", "(I)Lcom/example/vouchsafe/bearer/Role;"⟩ : MethodName) (Jvm.Cond.code (⟨"com/example/vouchsafe/bearer/Role", "challengedWith", "(I)Lcom/example/vouchsafe/bearer/Role;"⟩ : MethodName) prog_7_method_4_code 5 (some (.object "com/example/vouchsafe/bearer/Role")) :: ws) (own_R 2 1 2 25) #[(.int p1)] Z h0 (Q_rm1_0 Z p1 w_REGISTRAR w_VAL w_PROXY kc_w_VAL h0 n0) := by
  refine own_body (plainFor_of_name pn_1) hisR fun p e s m below meth c s₁ hx hby hml hown hnm hret hZ X0 e0 => ?_
  have N0 := Fr.nil n0
  have K0 : Keep h0 h0 [] := Keep.refl _ _
  have pre0 : ∀ t, Go p e below s₁ (mkF m 0 #[.val (.int p1), .unset, .unset, .unset, .unset] []) t → Go p e below s₁ (entryFrame m #[(.int p1)] 5) t := fun t k => castTop (ef_1_I m p1) k
  obtain ⟨_, _, ⟨T21, L21, k21, n21⟩, -, X21, ⟨Lc21, hQ21, l21, y21, z21⟩, st21⟩ := Jvm.LawKit.callS X0 hx (y := (⟨"com/example/vouchsafe/bearer/Role", "values", "()[Lcom/example/vouchsafe/bearer/Role;"⟩ : MethodName)) hown (mvT hZ (own_w hw 6 rfl)) (mvT hZ (own_w hw 7 rfl)) (mvT hZ (own_w hw 1 rfl)) (mvT hZ (own_w hw 8 rfl)) (by decide) (backOf (W := 0) (rm2 l Z a0 hw [] cx  h0 n0 O0 ) hZ (own_w hw 8 rfl) (own_w hw 1 rfl) (by decide) (by decide)) (g := (mkF m 0 #[.val (.int p1), .unset, .unset, .unset, .unset] [])) rfl (by rw [hml]; rfl) (argsL := []) (rest := []) (lenOf pd_0 rfl) rfl (by show 2 * 0 + _ ≤ _; exact Nat.le_of_eq rfl) (hb hby d1_0) (fun _ _ => ⟨rfl, e0, (by decide : 0 + 1 ≤ _), (by decide : 0 + 2 ≤ _)⟩)
  dsimp only [Pt.U, Pt.locs, Pt.cells, Pt.slots] at X21 l21 y21 z21 st21 hQ21
  subst l21 y21 z21
  obtain ⟨b_21, kb_21, rfl, Nq21, Kq21, fr21_0, fq21_0⟩ := hQ21
  have N22 := Fr.app N0 Nq21
  have q23 := fun t (kt : Go p e below T21 (mkF m 3 #[.val (.int p1), .unset, .unset, .unset, .unset] [(.ref b_21)]) t) => pre0 t (st21 t kt)
  have gg24 : n0 ≤ b_21 := Nat.le_trans (O0.1 ▸ O0.2.1) fr21_0
  have sz25 : h0.size ≤ b_21 := Nat.le_trans K0.1 fr21_0
  have O26 : Old Z n0 T21.heap := O0.keep Kq21 all0
  have K27 : Keep h0 T21.heap [] := K0.trans Kq21 all0
  have q29 := fun t (kt : Go p e below T21 (mkF m 5 #[.val (.int p1), .val (.ref b_21), .unset, .unset, .unset] [(.ref b_21)]) t) => q23 t (by
    show Go p e below T21 (mkF m 3 #[.val (.int p1), .unset, .unset, .unset, .unset] [(.ref b_21)]) _
    refine XS.astoreN X21.here hx rfl (hb hby d1_3) rfl rfl (l' := #[.val (.int p1), .val (.ref b_21), .unset, .unset, .unset]) rfl ?_
    show Go p e below T21 (mkF m 4 #[.val (.int p1), .val (.ref b_21), .unset, .unset, .unset] []) _
    refine XS.aloadN X21.here hx rfl (hb hby d1_4) rfl rfl ?_
    exact kt)
  obtain ⟨c28, Ar28, -, S28, N28, -, -⟩ := id fq21_0
  have q31 := fun t (kt : Go p e below T21 (mkF m 16 #[.val (.int p1), .val (.ref b_21), .val (.int (2 : Int32)), .val (.int (0 : Int32)), .unset] [(.int (0 : Int32)), (.ref b_21)]) t) => q29 t (by
    show Go p e below T21 (mkF m 5 #[.val (.int p1), .val (.ref b_21), .unset, .unset, .unset] [(.ref b_21)]) _
    refine X21.arraylength hx Ar28.1 (State.isArrayOf_alike hZ.alike Ar28.2.1) (g := (mkF m 5 #[.val (.int p1), .val (.ref b_21), .unset, .unset, .unset] [(.ref b_21)])) rfl rfl (hb hby d1_5) _ ?_
    rw [len_of S28 N28]
    show Go p e below T21 (mkF m 6 #[.val (.int p1), .val (.ref b_21), .unset, .unset, .unset] [(.int (2 : Int32))]) _
    refine XS.istoreN X21.here hx rfl (hb hby d1_6) rfl (l' := #[.val (.int p1), .val (.ref b_21), .val (.int (2 : Int32)), .unset, .unset]) rfl ?_
    show Go p e below T21 (mkF m 7 #[.val (.int p1), .val (.ref b_21), .val (.int (2 : Int32)), .unset, .unset] []) _
    refine XS.iconst X21.here hx rfl (hb hby d1_7) ?_
    show Go p e below T21 (mkF m 8 #[.val (.int p1), .val (.ref b_21), .val (.int (2 : Int32)), .unset, .unset] [(.int (0 : Int32))]) _
    refine XS.istoreN X21.here hx rfl (hb hby d1_8) rfl (l' := #[.val (.int p1), .val (.ref b_21), .val (.int (2 : Int32)), .val (.int (0 : Int32)), .unset]) rfl ?_
    show Go p e below T21 (mkF m 9 #[.val (.int p1), .val (.ref b_21), .val (.int (2 : Int32)), .val (.int (0 : Int32)), .unset] []) _
    refine XS.iloadN X21.here hx rfl (hb hby d1_9) rfl ?_
    show Go p e below T21 (mkF m 10 #[.val (.int p1), .val (.ref b_21), .val (.int (2 : Int32)), .val (.int (0 : Int32)), .unset] [(.int (0 : Int32))]) _
    refine XS.iloadN X21.here hx rfl (hb hby d1_10) rfl ?_
    show Go p e below T21 (mkF m 11 #[.val (.int p1), .val (.ref b_21), .val (.int (2 : Int32)), .val (.int (0 : Int32)), .unset] [(.int (2 : Int32)), (.int (0 : Int32))]) _
    refine XS.icmpNo X21.here hx rfl (hb hby d1_11) rfl (tlt (by decide : (0 : Int32) < (2 : Int32))).2.1 ?_
    show Go p e below T21 (mkF m 14 #[.val (.int p1), .val (.ref b_21), .val (.int (2 : Int32)), .val (.int (0 : Int32)), .unset] []) _
    refine XS.aloadN X21.here hx rfl (hb hby d1_14) rfl rfl ?_
    show Go p e below T21 (mkF m 15 #[.val (.int p1), .val (.ref b_21), .val (.int (2 : Int32)), .val (.int (0 : Int32)), .unset] [(.ref b_21)]) _
    refine XS.iloadN X21.here hx rfl (hb hby d1_15) rfl ?_
    exact kt)
  obtain ⟨c30, Ar30, -, S30, N30, H30, -⟩ := id fq21_0
  have q32 := fun t (kt : Go p e below T21 (mkF m 21 #[.val (.int p1), .val (.ref b_21), .val (.int (2 : Int32)), .val (.int (0 : Int32)), .val (.ref w_REGISTRAR)] [(.ref w_REGISTRAR)]) t) => q31 t (by
    show Go p e below T21 (mkF m 16 #[.val (.int p1), .val (.ref b_21), .val (.int (2 : Int32)), .val (.int (0 : Int32)), .unset] [(.int (0 : Int32)), (.ref b_21)]) _
    refine X21.aaload hx (j := (0 : Int32)) (v := (.ref w_REGISTRAR)) Ar30.1 (State.isArrayOf_alike hZ.alike Ar30.2.1) rfl Ar30.2.2 (inb_of S30 ⟨by decide, by decide⟩) (Has.at H30 (inb_of S30 ⟨by decide, by decide⟩) rfl) (g := (mkF m 16 #[.val (.int p1), .val (.ref b_21), .val (.int (2 : Int32)), .val (.int (0 : Int32)), .unset] [(.int (0 : Int32)), (.ref b_21)])) rfl rfl (hb hby d1_16) _ ?_
    show Go p e below T21 (mkF m 17 #[.val (.int p1), .val (.ref b_21), .val (.int (2 : Int32)), .val (.int (0 : Int32)), .unset] [(.ref w_REGISTRAR)]) _
    refine XS.astore X21.here hx rfl (hb hby d1_17) rfl rfl (l' := #[.val (.int p1), .val (.ref b_21), .val (.int (2 : Int32)), .val (.int (0 : Int32)), .val (.ref w_REGISTRAR)]) rfl ?_
    show Go p e below T21 (mkF m 19 #[.val (.int p1), .val (.ref b_21), .val (.int (2 : Int32)), .val (.int (0 : Int32)), .val (.ref w_REGISTRAR)] []) _
    refine XS.aload X21.here hx rfl (hb hby d1_19) rfl rfl ?_
    exact kt)
  obtain ⟨T33, X33, e33, st33⟩ := getF X21 hx hZ hown (host := "") (Or.inl (own_w hw 22 rfl)) Via.refl rfl (cx.2.2.2.2.2.2.1.ext O26.2) (g := (mkF m 21 #[.val (.int p1), .val (.ref b_21), .val (.int (2 : Int32)), .val (.int (0 : Int32)), .val (.ref w_REGISTRAR)] [(.ref w_REGISTRAR)])) rfl rfl (hb hby d1_21)
  have q34 := fun t (kt : Go p e below T33 (mkF m 24 #[.val (.int p1), .val (.ref b_21), .val (.int (2 : Int32)), .val (.int (0 : Int32)), .val (.ref w_REGISTRAR)] [(.int (401 : Int32))]) t) => q32 t (st33 t kt)
  have q35 := fun t (kt : Go p e below T33 (mkF m 30 #[.val (.int p1), .val (.ref b_21), .val (.int (2 : Int32)), .val (.int (0 : Int32)), .val (.ref w_REGISTRAR)] [(.ref w_REGISTRAR)]) t) => q34 t (by
    show Go p e below T33 (mkF m 24 #[.val (.int p1), .val (.ref b_21), .val (.int (2 : Int32)), .val (.int (0 : Int32)), .val (.ref w_REGISTRAR)] [(.int (401 : Int32))]) _
    refine XS.iloadN X33.here hx rfl (hb hby d1_24) rfl ?_
    show Go p e below T33 (mkF m 25 #[.val (.int p1), .val (.ref b_21), .val (.int (2 : Int32)), .val (.int (0 : Int32)), .val (.ref w_REGISTRAR)] [(.int p1), (.int (401 : Int32))]) _
    refine XS.icmpNo X33.here hx rfl (hb hby d1_25) rfl (teq (Eq.symm hp)).2 ?_
    show Go p e below T33 (mkF m 28 #[.val (.int p1), .val (.ref b_21), .val (.int (2 : Int32)), .val (.int (0 : Int32)), .val (.ref w_REGISTRAR)] []) _
    refine XS.aload X33.here hx rfl (hb hby d1_28) rfl rfl ?_
    exact kt)
  exact ⟨some (.ref w_REGISTRAR), T33, _, _, _, _, X33, by decide, by decide, nofun, q35, fun fs hr => retOut X33 hx hret rfl (Or.inr (Or.inr (Or.inr (Or.inr ⟨rfl, rfl, rfl⟩)))) (hb hby d1_30) hr, by rw [e33]; exact ⟨rfl, N22, K27⟩⟩
theorem d1_31 : decode prog_7_method_4_code 31 = .ok (.iinc 3 1, 3) := by decide +kernel
theorem d1_34 : decode prog_7_method_4_code 34 = .ok (.goto (-25), 3) := by decide +kernel
def Q_rm1_1 (Z : State) (p1 : Int32) (w_REGISTRAR : Addr) (w_VAL : Addr) (w_PROXY : Addr) (kc_w_VAL : ClassId) (h0 : Heap) (n0 : Nat) (v : Option Value) (h : Heap) (L : List Loc) : Prop := v = some (.ref w_PROXY) ∧ Fr n0 L ∧ Keep h0 h []
theorem rm1_1 (l : Launch) (Z : State) (a0 : Array Value) (hw : ∀ d ∈ tables_1, d.before a0 Z = true) (ws : List Jvm.Cond) {w_REGISTRAR : Addr} {w_VAL : Addr} {w_PROXY : Addr} {kc_w_VAL : ClassId} (cx : Cx Z w_REGISTRAR w_VAL w_PROXY kc_w_VAL) (p1 : Int32) (h0 : Heap) (n0 : Nat) (O0 : Old Z n0 h0) (hp : ¬ (p1 = (401 : Int32))) (hq : p1 = (407 : Int32)) :
    OwnMet l (⟨"com/example/vouchsafe/bearer/Role", "challengedWith", "(I)Lcom/example/vouchsafe/bearer/Role;"⟩ : MethodName) (Jvm.Cond.code (⟨"com/example/vouchsafe/bearer/Role", "challengedWith", "(I)Lcom/example/vouchsafe/bearer/Role;"⟩ : MethodName) prog_7_method_4_code 5 (some (.object "com/example/vouchsafe/bearer/Role")) :: ws) (own_R 2 1 2 25) #[(.int p1)] Z h0 (Q_rm1_1 Z p1 w_REGISTRAR w_VAL w_PROXY kc_w_VAL h0 n0) := by
  refine own_body (plainFor_of_name pn_1) hisR fun p e s m below meth c s₁ hx hby hml hown hnm hret hZ X0 e0 => ?_
  have N0 := Fr.nil n0
  have K0 : Keep h0 h0 [] := Keep.refl _ _
  have pre0 : ∀ t, Go p e below s₁ (mkF m 0 #[.val (.int p1), .unset, .unset, .unset, .unset] []) t → Go p e below s₁ (entryFrame m #[(.int p1)] 5) t := fun t k => castTop (ef_1_I m p1) k
  obtain ⟨_, _, ⟨T21, L21, k21, n21⟩, -, X21, ⟨Lc21, hQ21, l21, y21, z21⟩, st21⟩ := Jvm.LawKit.callS X0 hx (y := (⟨"com/example/vouchsafe/bearer/Role", "values", "()[Lcom/example/vouchsafe/bearer/Role;"⟩ : MethodName)) hown (mvT hZ (own_w hw 6 rfl)) (mvT hZ (own_w hw 7 rfl)) (mvT hZ (own_w hw 1 rfl)) (mvT hZ (own_w hw 8 rfl)) (by decide) (backOf (W := 0) (rm2 l Z a0 hw [] cx  h0 n0 O0 ) hZ (own_w hw 8 rfl) (own_w hw 1 rfl) (by decide) (by decide)) (g := (mkF m 0 #[.val (.int p1), .unset, .unset, .unset, .unset] [])) rfl (by rw [hml]; rfl) (argsL := []) (rest := []) (lenOf pd_0 rfl) rfl (by show 2 * 0 + _ ≤ _; exact Nat.le_of_eq rfl) (hb hby d1_0) (fun _ _ => ⟨rfl, e0, (by decide : 0 + 1 ≤ _), (by decide : 0 + 2 ≤ _)⟩)
  dsimp only [Pt.U, Pt.locs, Pt.cells, Pt.slots] at X21 l21 y21 z21 st21 hQ21
  subst l21 y21 z21
  obtain ⟨b_21, kb_21, rfl, Nq21, Kq21, fr21_0, fq21_0⟩ := hQ21
  have N22 := Fr.app N0 Nq21
  have q23 := fun t (kt : Go p e below T21 (mkF m 3 #[.val (.int p1), .unset, .unset, .unset, .unset] [(.ref b_21)]) t) => pre0 t (st21 t kt)
  have gg24 : n0 ≤ b_21 := Nat.le_trans (O0.1 ▸ O0.2.1) fr21_0
  have sz25 : h0.size ≤ b_21 := Nat.le_trans K0.1 fr21_0
  have O26 : Old Z n0 T21.heap := O0.keep Kq21 all0
  have K27 : Keep h0 T21.heap [] := K0.trans Kq21 all0
  have q29 := fun t (kt : Go p e below T21 (mkF m 5 #[.val (.int p1), .val (.ref b_21), .unset, .unset, .unset] [(.ref b_21)]) t) => q23 t (by
    show Go p e below T21 (mkF m 3 #[.val (.int p1), .unset, .unset, .unset, .unset] [(.ref b_21)]) _
    refine XS.astoreN X21.here hx rfl (hb hby d1_3) rfl rfl (l' := #[.val (.int p1), .val (.ref b_21), .unset, .unset, .unset]) rfl ?_
    show Go p e below T21 (mkF m 4 #[.val (.int p1), .val (.ref b_21), .unset, .unset, .unset] []) _
    refine XS.aloadN X21.here hx rfl (hb hby d1_4) rfl rfl ?_
    exact kt)
  obtain ⟨c28, Ar28, -, S28, N28, -, -⟩ := id fq21_0
  have q31 := fun t (kt : Go p e below T21 (mkF m 16 #[.val (.int p1), .val (.ref b_21), .val (.int (2 : Int32)), .val (.int (0 : Int32)), .unset] [(.int (0 : Int32)), (.ref b_21)]) t) => q29 t (by
    show Go p e below T21 (mkF m 5 #[.val (.int p1), .val (.ref b_21), .unset, .unset, .unset] [(.ref b_21)]) _
    refine X21.arraylength hx Ar28.1 (State.isArrayOf_alike hZ.alike Ar28.2.1) (g := (mkF m 5 #[.val (.int p1), .val (.ref b_21), .unset, .unset, .unset] [(.ref b_21)])) rfl rfl (hb hby d1_5) _ ?_
    rw [len_of S28 N28]
    show Go p e below T21 (mkF m 6 #[.val (.int p1), .val (.ref b_21), .unset, .unset, .unset] [(.int (2 : Int32))]) _
    refine XS.istoreN X21.here hx rfl (hb hby d1_6) rfl (l' := #[.val (.int p1), .val (.ref b_21), .val (.int (2 : Int32)), .unset, .unset]) rfl ?_
    show Go p e below T21 (mkF m 7 #[.val (.int p1), .val (.ref b_21), .val (.int (2 : Int32)), .unset, .unset] []) _
    refine XS.iconst X21.here hx rfl (hb hby d1_7) ?_
    show Go p e below T21 (mkF m 8 #[.val (.int p1), .val (.ref b_21), .val (.int (2 : Int32)), .unset, .unset] [(.int (0 : Int32))]) _
    refine XS.istoreN X21.here hx rfl (hb hby d1_8) rfl (l' := #[.val (.int p1), .val (.ref b_21), .val (.int (2 : Int32)), .val (.int (0 : Int32)), .unset]) rfl ?_
    show Go p e below T21 (mkF m 9 #[.val (.int p1), .val (.ref b_21), .val (.int (2 : Int32)), .val (.int (0 : Int32)), .unset] []) _
    refine XS.iloadN X21.here hx rfl (hb hby d1_9) rfl ?_
    show Go p e below T21 (mkF m 10 #[.val (.int p1), .val (.ref b_21), .val (.int (2 : Int32)), .val (.int (0 : Int32)), .unset] [(.int (0 : Int32))]) _
    refine XS.iloadN X21.here hx rfl (hb hby d1_10) rfl ?_
    show Go p e below T21 (mkF m 11 #[.val (.int p1), .val (.ref b_21), .val (.int (2 : Int32)), .val (.int (0 : Int32)), .unset] [(.int (2 : Int32)), (.int (0 : Int32))]) _
    refine XS.icmpNo X21.here hx rfl (hb hby d1_11) rfl (tlt (by decide : (0 : Int32) < (2 : Int32))).2.1 ?_
    show Go p e below T21 (mkF m 14 #[.val (.int p1), .val (.ref b_21), .val (.int (2 : Int32)), .val (.int (0 : Int32)), .unset] []) _
    refine XS.aloadN X21.here hx rfl (hb hby d1_14) rfl rfl ?_
    show Go p e below T21 (mkF m 15 #[.val (.int p1), .val (.ref b_21), .val (.int (2 : Int32)), .val (.int (0 : Int32)), .unset] [(.ref b_21)]) _
    refine XS.iloadN X21.here hx rfl (hb hby d1_15) rfl ?_
    exact kt)
  obtain ⟨c30, Ar30, -, S30, N30, H30, -⟩ := id fq21_0
  have q32 := fun t (kt : Go p e below T21 (mkF m 21 #[.val (.int p1), .val (.ref b_21), .val (.int (2 : Int32)), .val (.int (0 : Int32)), .val (.ref w_REGISTRAR)] [(.ref w_REGISTRAR)]) t) => q31 t (by
    show Go p e below T21 (mkF m 16 #[.val (.int p1), .val (.ref b_21), .val (.int (2 : Int32)), .val (.int (0 : Int32)), .unset] [(.int (0 : Int32)), (.ref b_21)]) _
    refine X21.aaload hx (j := (0 : Int32)) (v := (.ref w_REGISTRAR)) Ar30.1 (State.isArrayOf_alike hZ.alike Ar30.2.1) rfl Ar30.2.2 (inb_of S30 ⟨by decide, by decide⟩) (Has.at H30 (inb_of S30 ⟨by decide, by decide⟩) rfl) (g := (mkF m 16 #[.val (.int p1), .val (.ref b_21), .val (.int (2 : Int32)), .val (.int (0 : Int32)), .unset] [(.int (0 : Int32)), (.ref b_21)])) rfl rfl (hb hby d1_16) _ ?_
    show Go p e below T21 (mkF m 17 #[.val (.int p1), .val (.ref b_21), .val (.int (2 : Int32)), .val (.int (0 : Int32)), .unset] [(.ref w_REGISTRAR)]) _
    refine XS.astore X21.here hx rfl (hb hby d1_17) rfl rfl (l' := #[.val (.int p1), .val (.ref b_21), .val (.int (2 : Int32)), .val (.int (0 : Int32)), .val (.ref w_REGISTRAR)]) rfl ?_
    show Go p e below T21 (mkF m 19 #[.val (.int p1), .val (.ref b_21), .val (.int (2 : Int32)), .val (.int (0 : Int32)), .val (.ref w_REGISTRAR)] []) _
    refine XS.aload X21.here hx rfl (hb hby d1_19) rfl rfl ?_
    exact kt)
  obtain ⟨T33, X33, e33, st33⟩ := getF X21 hx hZ hown (host := "") (Or.inl (own_w hw 22 rfl)) Via.refl rfl (cx.2.2.2.2.2.2.1.ext O26.2) (g := (mkF m 21 #[.val (.int p1), .val (.ref b_21), .val (.int (2 : Int32)), .val (.int (0 : Int32)), .val (.ref w_REGISTRAR)] [(.ref w_REGISTRAR)])) rfl rfl (hb hby d1_21)
  have q34 := fun t (kt : Go p e below T33 (mkF m 24 #[.val (.int p1), .val (.ref b_21), .val (.int (2 : Int32)), .val (.int (0 : Int32)), .val (.ref w_REGISTRAR)] [(.int (401 : Int32))]) t) => q32 t (st33 t kt)
  have q36 := fun t (kt : Go p e below T33 (mkF m 16 #[.val (.int p1), .val (.ref b_21), .val (.int (2 : Int32)), .val (.int (1 : Int32)), .val (.ref w_REGISTRAR)] [(.int (1 : Int32)), (.ref b_21)]) t) => q34 t (by
    show Go p e below T33 (mkF m 24 #[.val (.int p1), .val (.ref b_21), .val (.int (2 : Int32)), .val (.int (0 : Int32)), .val (.ref w_REGISTRAR)] [(.int (401 : Int32))]) _
    refine XS.iloadN X33.here hx rfl (hb hby d1_24) rfl ?_
    show Go p e below T33 (mkF m 25 #[.val (.int p1), .val (.ref b_21), .val (.int (2 : Int32)), .val (.int (0 : Int32)), .val (.ref w_REGISTRAR)] [(.int p1), (.int (401 : Int32))]) _
    refine XS.icmpYes X33.here hx rfl (pc0 := 25) (pc' := 31) rfl (hb hby d1_25) rfl (feq (fun z => hp z.symm)).2 (by decide) (by decide) ?_
    show Go p e below T33 (mkF m 31 #[.val (.int p1), .val (.ref b_21), .val (.int (2 : Int32)), .val (.int (0 : Int32)), .val (.ref w_REGISTRAR)] []) _
    refine XS.iinc X33.here hx rfl (hb hby d1_31) rfl (l' := #[.val (.int p1), .val (.ref b_21), .val (.int (2 : Int32)), .val (.int (1 : Int32)), .val (.ref w_REGISTRAR)]) rfl ?_
    show Go p e below T33 (mkF m 34 #[.val (.int p1), .val (.ref b_21), .val (.int (2 : Int32)), .val (.int (1 : Int32)), .val (.ref w_REGISTRAR)] []) _
    refine XS.goto X33.here hx rfl (pc0 := 34) (pc' := 9) rfl (hb hby d1_34) (by decide) (by decide) ?_
    show Go p e below T33 (mkF m 9 #[.val (.int p1), .val (.ref b_21), .val (.int (2 : Int32)), .val (.int (1 : Int32)), .val (.ref w_REGISTRAR)] []) _
    refine XS.iloadN X33.here hx rfl (hb hby d1_9) rfl ?_
    show Go p e below T33 (mkF m 10 #[.val (.int p1), .val (.ref b_21), .val (.int (2 : Int32)), .val (.int (1 : Int32)), .val (.ref w_REGISTRAR)] [(.int (1 : Int32))]) _
    refine XS.iloadN X33.here hx rfl (hb hby d1_10) rfl ?_
    show Go p e below T33 (mkF m 11 #[.val (.int p1), .val (.ref b_21), .val (.int (2 : Int32)), .val (.int (1 : Int32)), .val (.ref w_REGISTRAR)] [(.int (2 : Int32)), (.int (1 : Int32))]) _
    refine XS.icmpNo X33.here hx rfl (hb hby d1_11) rfl (tlt (by decide : (1 : Int32) < (2 : Int32))).2.1 ?_
    show Go p e below T33 (mkF m 14 #[.val (.int p1), .val (.ref b_21), .val (.int (2 : Int32)), .val (.int (1 : Int32)), .val (.ref w_REGISTRAR)] []) _
    refine XS.aloadN X33.here hx rfl (hb hby d1_14) rfl rfl ?_
    show Go p e below T33 (mkF m 15 #[.val (.int p1), .val (.ref b_21), .val (.int (2 : Int32)), .val (.int (1 : Int32)), .val (.ref w_REGISTRAR)] [(.ref b_21)]) _
    refine XS.iloadN X33.here hx rfl (hb hby d1_15) rfl ?_
    exact kt)
  obtain ⟨c35, Ar35, -, S35, N35, H35, -⟩ := id fq21_0
  have q37 := fun t (kt : Go p e below T33 (mkF m 21 #[.val (.int p1), .val (.ref b_21), .val (.int (2 : Int32)), .val (.int (1 : Int32)), .val (.ref w_PROXY)] [(.ref w_PROXY)]) t) => q36 t (by
    show Go p e below T33 (mkF m 16 #[.val (.int p1), .val (.ref b_21), .val (.int (2 : Int32)), .val (.int (1 : Int32)), .val (.ref w_REGISTRAR)] [(.int (1 : Int32)), (.ref b_21)]) _
    refine X33.aaload hx (j := (1 : Int32)) (v := (.ref w_PROXY)) (by rw [e33]; exact Ar35.1) (State.isArrayOf_alike hZ.alike Ar35.2.1) rfl Ar35.2.2 (inb_of S35 ⟨by decide, by decide⟩) (Has.at H35 (inb_of S35 ⟨by decide, by decide⟩) rfl) (g := (mkF m 16 #[.val (.int p1), .val (.ref b_21), .val (.int (2 : Int32)), .val (.int (1 : Int32)), .val (.ref w_REGISTRAR)] [(.int (1 : Int32)), (.ref b_21)])) rfl rfl (hb hby d1_16) _ ?_
    show Go p e below T33 (mkF m 17 #[.val (.int p1), .val (.ref b_21), .val (.int (2 : Int32)), .val (.int (1 : Int32)), .val (.ref w_REGISTRAR)] [(.ref w_PROXY)]) _
    refine XS.astore X33.here hx rfl (hb hby d1_17) rfl rfl (l' := #[.val (.int p1), .val (.ref b_21), .val (.int (2 : Int32)), .val (.int (1 : Int32)), .val (.ref w_PROXY)]) rfl ?_
    show Go p e below T33 (mkF m 19 #[.val (.int p1), .val (.ref b_21), .val (.int (2 : Int32)), .val (.int (1 : Int32)), .val (.ref w_PROXY)] []) _
    refine XS.aload X33.here hx rfl (hb hby d1_19) rfl rfl ?_
    exact kt)
  obtain ⟨T38, X38, e38, st38⟩ := getF X33 hx hZ hown (host := "") (Or.inl (own_w hw 22 rfl)) Via.refl e33 (cx.2.2.2.2.2.2.2.1.ext O26.2) (g := (mkF m 21 #[.val (.int p1), .val (.ref b_21), .val (.int (2 : Int32)), .val (.int (1 : Int32)), .val (.ref w_PROXY)] [(.ref w_PROXY)])) rfl rfl (hb hby d1_21)
  have q39 := fun t (kt : Go p e below T38 (mkF m 24 #[.val (.int p1), .val (.ref b_21), .val (.int (2 : Int32)), .val (.int (1 : Int32)), .val (.ref w_PROXY)] [(.int (407 : Int32))]) t) => q37 t (st38 t kt)
  have q40 := fun t (kt : Go p e below T38 (mkF m 30 #[.val (.int p1), .val (.ref b_21), .val (.int (2 : Int32)), .val (.int (1 : Int32)), .val (.ref w_PROXY)] [(.ref w_PROXY)]) t) => q39 t (by
    show Go p e below T38 (mkF m 24 #[.val (.int p1), .val (.ref b_21), .val (.int (2 : Int32)), .val (.int (1 : Int32)), .val (.ref w_PROXY)] [(.int (407 : Int32))]) _
    refine XS.iloadN X38.here hx rfl (hb hby d1_24) rfl ?_
    show Go p e below T38 (mkF m 25 #[.val (.int p1), .val (.ref b_21), .val (.int (2 : Int32)), .val (.int (1 : Int32)), .val (.ref w_PROXY)] [(.int p1), (.int (407 : Int32))]) _
    refine XS.icmpNo X38.here hx rfl (hb hby d1_25) rfl (teq (Eq.symm hq)).2 ?_
    show Go p e below T38 (mkF m 28 #[.val (.int p1), .val (.ref b_21), .val (.int (2 : Int32)), .val (.int (1 : Int32)), .val (.ref w_PROXY)] []) _
    refine XS.aload X38.here hx rfl (hb hby d1_28) rfl rfl ?_
    exact kt)
  exact ⟨some (.ref w_PROXY), T38, _, _, _, _, X38, by decide, by decide, nofun, q40, fun fs hr => retOut X38 hx hret rfl (Or.inr (Or.inr (Or.inr (Or.inr ⟨rfl, rfl, rfl⟩)))) (hb hby d1_30) hr, by rw [e38]; exact ⟨rfl, N22, K27⟩⟩
theorem d1_37 : decode prog_7_method_4_code 37 = .ok (.aconst_null, 1) := by decide +kernel
theorem d1_38 : decode prog_7_method_4_code 38 = .ok (.areturn, 1) := by decide +kernel
def Q_rm1_2 (Z : State) (p1 : Int32) (w_REGISTRAR : Addr) (w_VAL : Addr) (w_PROXY : Addr) (kc_w_VAL : ClassId) (h0 : Heap) (n0 : Nat) (v : Option Value) (h : Heap) (L : List Loc) : Prop := v = some .null ∧ Fr n0 L ∧ Keep h0 h []
theorem rm1_2 (l : Launch) (Z : State) (a0 : Array Value) (hw : ∀ d ∈ tables_1, d.before a0 Z = true) (ws : List Jvm.Cond) {w_REGISTRAR : Addr} {w_VAL : Addr} {w_PROXY : Addr} {kc_w_VAL : ClassId} (cx : Cx Z w_REGISTRAR w_VAL w_PROXY kc_w_VAL) (p1 : Int32) (h0 : Heap) (n0 : Nat) (O0 : Old Z n0 h0) (hp : ¬ (p1 = (401 : Int32))) (hq : ¬ (p1 = (407 : Int32))) :
    OwnMet l (⟨"com/example/vouchsafe/bearer/Role", "challengedWith", "(I)Lcom/example/vouchsafe/bearer/Role;"⟩ : MethodName) (Jvm.Cond.code (⟨"com/example/vouchsafe/bearer/Role", "challengedWith", "(I)Lcom/example/vouchsafe/bearer/Role;"⟩ : MethodName) prog_7_method_4_code 5 (some (.object "com/example/vouchsafe/bearer/Role")) :: ws) (own_R 2 1 2 25) #[(.int p1)] Z h0 (Q_rm1_2 Z p1 w_REGISTRAR w_VAL w_PROXY kc_w_VAL h0 n0) := by
  refine own_body (plainFor_of_name pn_1) hisR fun p e s m below meth c s₁ hx hby hml hown hnm hret hZ X0 e0 => ?_
  have N0 := Fr.nil n0
  have K0 : Keep h0 h0 [] := Keep.refl _ _
  have pre0 : ∀ t, Go p e below s₁ (mkF m 0 #[.val (.int p1), .unset, .unset, .unset, .unset] []) t → Go p e below s₁ (entryFrame m #[(.int p1)] 5) t := fun t k => castTop (ef_1_I m p1) k
  obtain ⟨_, _, ⟨T21, L21, k21, n21⟩, -, X21, ⟨Lc21, hQ21, l21, y21, z21⟩, st21⟩ := Jvm.LawKit.callS X0 hx (y := (⟨"com/example/vouchsafe/bearer/Role", "values", "()[Lcom/example/vouchsafe/bearer/Role;"⟩ : MethodName)) hown (mvT hZ (own_w hw 6 rfl)) (mvT hZ (own_w hw 7 rfl)) (mvT hZ (own_w hw 1 rfl)) (mvT hZ (own_w hw 8 rfl)) (by decide) (backOf (W := 0) (rm2 l Z a0 hw [] cx  h0 n0 O0 ) hZ (own_w hw 8 rfl) (own_w hw 1 rfl) (by decide) (by decide)) (g := (mkF m 0 #[.val (.int p1), .unset, .unset, .unset, .unset] [])) rfl (by rw [hml]; rfl) (argsL := []) (rest := []) (lenOf pd_0 rfl) rfl (by show 2 * 0 + _ ≤ _; exact Nat.le_of_eq rfl) (hb hby d1_0) (fun _ _ => ⟨rfl, e0, (by decide : 0 + 1 ≤ _), (by decide : 0 + 2 ≤ _)⟩)
  dsimp only [Pt.U, Pt.locs, Pt.cells, Pt.slots] at X21 l21 y21 z21 st21 hQ21
  subst l21 y21 z21
  obtain ⟨b_21, kb_21, rfl, Nq21, Kq21, fr21_0, fq21_0⟩ := hQ21
  have N22 := Fr.app N0 Nq21
  have q23 := fun t (kt : Go p e below T21 (mkF m 3 #[.val (.int p1), .unset, .unset, .unset, .unset] [(.ref b_21)]) t) => pre0 t (st21 t kt)
  have gg24 : n0 ≤ b_21 := Nat.le_trans (O0.1 ▸ O0.2.1) fr21_0
  have sz25 : h0.size ≤ b_21 := Nat.le_trans K0.1 fr21_0
  have O26 : Old Z n0 T21.heap := O0.keep Kq21 all0
  have K27 : Keep h0 T21.heap [] := K0.trans Kq21 all0
  have q29 := fun t (kt : Go p e below T21 (mkF m 5 #[.val (.int p1), .val (.ref b_21), .unset, .unset, .unset] [(.ref b_21)]) t) => q23 t (by
    show Go p e below T21 (mkF m 3 #[.val (.int p1), .unset, .unset, .unset, .unset] [(.ref b_21)]) _
    refine XS.astoreN X21.here hx rfl (hb hby d1_3) rfl rfl (l' := #[.val (.int p1), .val (.ref b_21), .unset, .unset, .unset]) rfl ?_
    show Go p e below T21 (mkF m 4 #[.val (.int p1), .val (.ref b_21), .unset, .unset, .unset] []) _
    refine XS.aloadN X21.here hx rfl (hb hby d1_4) rfl rfl ?_
    exact kt)
  obtain ⟨c28, Ar28, -, S28, N28, -, -⟩ := id fq21_0
  have q31 := fun t (kt : Go p e below T21 (mkF m 16 #[.val (.int p1), .val (.ref b_21), .val (.int (2 : Int32)), .val (.int (0 : Int32)), .unset] [(.int (0 : Int32)), (.ref b_21)]) t) => q29 t (by
    show Go p e below T21 (mkF m 5 #[.val (.int p1), .val (.ref b_21), .unset, .unset, .unset] [(.ref b_21)]) _
    refine X21.arraylength hx Ar28.1 (State.isArrayOf_alike hZ.alike Ar28.2.1) (g := (mkF m 5 #[.val (.int p1), .val (.ref b_21), .unset, .unset, .unset] [(.ref b_21)])) rfl rfl (hb hby d1_5) _ ?_
    rw [len_of S28 N28]
    show Go p e below T21 (mkF m 6 #[.val (.int p1), .val (.ref b_21), .unset, .unset, .unset] [(.int (2 : Int32))]) _
    refine XS.istoreN X21.here hx rfl (hb hby d1_6) rfl (l' := #[.val (.int p1), .val (.ref b_21), .val (.int (2 : Int32)), .unset, .unset]) rfl ?_
    show Go p e below T21 (mkF m 7 #[.val (.int p1), .val (.ref b_21), .val (.int (2 : Int32)), .unset, .unset] []) _
    refine XS.iconst X21.here hx rfl (hb hby d1_7) ?_
    show Go p e below T21 (mkF m 8 #[.val (.int p1), .val (.ref b_21), .val (.int (2 : Int32)), .unset, .unset] [(.int (0 : Int32))]) _
    refine XS.istoreN X21.here hx rfl (hb hby d1_8) rfl (l' := #[.val (.int p1), .val (.ref b_21), .val (.int (2 : Int32)), .val (.int (0 : Int32)), .unset]) rfl ?_
    show Go p e below T21 (mkF m 9 #[.val (.int p1), .val (.ref b_21), .val (.int (2 : Int32)), .val (.int (0 : Int32)), .unset] []) _
    refine XS.iloadN X21.here hx rfl (hb hby d1_9) rfl ?_
    show Go p e below T21 (mkF m 10 #[.val (.int p1), .val (.ref b_21), .val (.int (2 : Int32)), .val (.int (0 : Int32)), .unset] [(.int (0 : Int32))]) _
    refine XS.iloadN X21.here hx rfl (hb hby d1_10) rfl ?_
    show Go p e below T21 (mkF m 11 #[.val (.int p1), .val (.ref b_21), .val (.int (2 : Int32)), .val (.int (0 : Int32)), .unset] [(.int (2 : Int32)), (.int (0 : Int32))]) _
    refine XS.icmpNo X21.here hx rfl (hb hby d1_11) rfl (tlt (by decide : (0 : Int32) < (2 : Int32))).2.1 ?_
    show Go p e below T21 (mkF m 14 #[.val (.int p1), .val (.ref b_21), .val (.int (2 : Int32)), .val (.int (0 : Int32)), .unset] []) _
    refine XS.aloadN X21.here hx rfl (hb hby d1_14) rfl rfl ?_
    show Go p e below T21 (mkF m 15 #[.val (.int p1), .val (.ref b_21), .val (.int (2 : Int32)), .val (.int (0 : Int32)), .unset] [(.ref b_21)]) _
    refine XS.iloadN X21.here hx rfl (hb hby d1_15) rfl ?_
    exact kt)
  obtain ⟨c30, Ar30, -, S30, N30, H30, -⟩ := id fq21_0
  have q32 := fun t (kt : Go p e below T21 (mkF m 21 #[.val (.int p1), .val (.ref b_21), .val (.int (2 : Int32)), .val (.int (0 : Int32)), .val (.ref w_REGISTRAR)] [(.ref w_REGISTRAR)]) t) => q31 t (by
    show Go p e below T21 (mkF m 16 #[.val (.int p1), .val (.ref b_21), .val (.int (2 : Int32)), .val (.int (0 : Int32)), .unset] [(.int (0 : Int32)), (.ref b_21)]) _
    refine X21.aaload hx (j := (0 : Int32)) (v := (.ref w_REGISTRAR)) Ar30.1 (State.isArrayOf_alike hZ.alike Ar30.2.1) rfl Ar30.2.2 (inb_of S30 ⟨by decide, by decide⟩) (Has.at H30 (inb_of S30 ⟨by decide, by decide⟩) rfl) (g := (mkF m 16 #[.val (.int p1), .val (.ref b_21), .val (.int (2 : Int32)), .val (.int (0 : Int32)), .unset] [(.int (0 : Int32)), (.ref b_21)])) rfl rfl (hb hby d1_16) _ ?_
    show Go p e below T21 (mkF m 17 #[.val (.int p1), .val (.ref b_21), .val (.int (2 : Int32)), .val (.int (0 : Int32)), .unset] [(.ref w_REGISTRAR)]) _
    refine XS.astore X21.here hx rfl (hb hby d1_17) rfl rfl (l' := #[.val (.int p1), .val (.ref b_21), .val (.int (2 : Int32)), .val (.int (0 : Int32)), .val (.ref w_REGISTRAR)]) rfl ?_
    show Go p e below T21 (mkF m 19 #[.val (.int p1), .val (.ref b_21), .val (.int (2 : Int32)), .val (.int (0 : Int32)), .val (.ref w_REGISTRAR)] []) _
    refine XS.aload X21.here hx rfl (hb hby d1_19) rfl rfl ?_
    exact kt)
  obtain ⟨T33, X33, e33, st33⟩ := getF X21 hx hZ hown (host := "") (Or.inl (own_w hw 22 rfl)) Via.refl rfl (cx.2.2.2.2.2.2.1.ext O26.2) (g := (mkF m 21 #[.val (.int p1), .val (.ref b_21), .val (.int (2 : Int32)), .val (.int (0 : Int32)), .val (.ref w_REGISTRAR)] [(.ref w_REGISTRAR)])) rfl rfl (hb hby d1_21)
  have q34 := fun t (kt : Go p e below T33 (mkF m 24 #[.val (.int p1), .val (.ref b_21), .val (.int (2 : Int32)), .val (.int (0 : Int32)), .val (.ref w_REGISTRAR)] [(.int (401 : Int32))]) t) => q32 t (st33 t kt)
  have q36 := fun t (kt : Go p e below T33 (mkF m 16 #[.val (.int p1), .val (.ref b_21), .val (.int (2 : Int32)), .val (.int (1 : Int32)), .val (.ref w_REGISTRAR)] [(.int (1 : Int32)), (.ref b_21)]) t) => q34 t (by
    show Go p e below T33 (mkF m 24 #[.val (.int p1), .val (.ref b_21), .val (.int (2 : Int32)), .val (.int (0 : Int32)), .val (.ref w_REGISTRAR)] [(.int (401 : Int32))]) _
    refine XS.iloadN X33.here hx rfl (hb hby d1_24) rfl ?_
    show Go p e below T33 (mkF m 25 #[.val (.int p1), .val (.ref b_21), .val (.int (2 : Int32)), .val (.int (0 : Int32)), .val (.ref w_REGISTRAR)] [(.int p1), (.int (401 : Int32))]) _
    refine XS.icmpYes X33.here hx rfl (pc0 := 25) (pc' := 31) rfl (hb hby d1_25) rfl (feq (fun z => hp z.symm)).2 (by decide) (by decide) ?_
    show Go p e below T33 (mkF m 31 #[.val (.int p1), .val (.ref b_21), .val (.int (2 : Int32)), .val (.int (0 : Int32)), .val (.ref w_REGISTRAR)] []) _
    refine XS.iinc X33.here hx rfl (hb hby d1_31) rfl (l' := #[.val (.int p1), .val (.ref b_21), .val (.int (2 : Int32)), .val (.int (1 : Int32)), .val (.ref w_REGISTRAR)]) rfl ?_
    show Go p e below T33 (mkF m 34 #[.val (.int p1), .val (.ref b_21), .val (.int (2 : Int32)), .val (.int (1 : Int32)), .val (.ref w_REGISTRAR)] []) _
    refine XS.goto X33.here hx rfl (pc0 := 34) (pc' := 9) rfl (hb hby d1_34) (by decide) (by decide) ?_
    show Go p e below T33 (mkF m 9 #[.val (.int p1), .val (.ref b_21), .val (.int (2 : Int32)), .val (.int (1 : Int32)), .val (.ref w_REGISTRAR)] []) _
    refine XS.iloadN X33.here hx rfl (hb hby d1_9) rfl ?_
    show Go p e below T33 (mkF m 10 #[.val (.int p1), .val (.ref b_21), .val (.int (2 : Int32)), .val (.int (1 : Int32)), .val (.ref w_REGISTRAR)] [(.int (1 : Int32))]) _
    refine XS.iloadN X33.here hx rfl (hb hby d1_10) rfl ?_
    show Go p e below T33 (mkF m 11 #[.val (.int p1), .val (.ref b_21), .val (.int (2 : Int32)), .val (.int (1 : Int32)), .val (.ref w_REGISTRAR)] [(.int (2 : Int32)), (.int (1 : Int32))]) _
    refine XS.icmpNo X33.here hx rfl (hb hby d1_11) rfl (tlt (by decide : (1 : Int32) < (2 : Int32))).2.1 ?_
    show Go p e below T33 (mkF m 14 #[.val (.int p1), .val (.ref b_21), .val (.int (2 : Int32)), .val (.int (1 : Int32)), .val (.ref w_REGISTRAR)] []) _
    refine XS.aloadN X33.here hx rfl (hb hby d1_14) rfl rfl ?_
    show Go p e below T33 (mkF m 15 #[.val (.int p1), .val (.ref b_21), .val (.int (2 : Int32)), .val (.int (1 : Int32)), .val (.ref w_REGISTRAR)] [(.ref b_21)]) _
    refine XS.iloadN X33.here hx rfl (hb hby d1_15) rfl ?_
    exact kt)
  obtain ⟨c35, Ar35, -, S35, N35, H35, -⟩ := id fq21_0
  have q37 := fun t (kt : Go p e below T33 (mkF m 21 #[.val (.int p1), .val (.ref b_21), .val (.int (2 : Int32)), .val (.int (1 : Int32)), .val (.ref w_PROXY)] [(.ref w_PROXY)]) t) => q36 t (by
    show Go p e below T33 (mkF m 16 #[.val (.int p1), .val (.ref b_21), .val (.int (2 : Int32)), .val (.int (1 : Int32)), .val (.ref w_REGISTRAR)] [(.int (1 : Int32)), (.ref b_21)]) _
    refine X33.aaload hx (j := (1 : Int32)) (v := (.ref w_PROXY)) (by rw [e33]; exact Ar35.1) (State.isArrayOf_alike hZ.alike Ar35.2.1) rfl Ar35.2.2 (inb_of S35 ⟨by decide, by decide⟩) (Has.at H35 (inb_of S35 ⟨by decide, by decide⟩) rfl) (g := (mkF m 16 #[.val (.int p1), .val (.ref b_21), .val (.int (2 : Int32)), .val (.int (1 : Int32)), .val (.ref w_REGISTRAR)] [(.int (1 : Int32)), (.ref b_21)])) rfl rfl (hb hby d1_16) _ ?_
    show Go p e below T33 (mkF m 17 #[.val (.int p1), .val (.ref b_21), .val (.int (2 : Int32)), .val (.int (1 : Int32)), .val (.ref w_REGISTRAR)] [(.ref w_PROXY)]) _
    refine XS.astore X33.here hx rfl (hb hby d1_17) rfl rfl (l' := #[.val (.int p1), .val (.ref b_21), .val (.int (2 : Int32)), .val (.int (1 : Int32)), .val (.ref w_PROXY)]) rfl ?_
    show Go p e below T33 (mkF m 19 #[.val (.int p1), .val (.ref b_21), .val (.int (2 : Int32)), .val (.int (1 : Int32)), .val (.ref w_PROXY)] []) _
    refine XS.aload X33.here hx rfl (hb hby d1_19) rfl rfl ?_
    exact kt)
  obtain ⟨T38, X38, e38, st38⟩ := getF X33 hx hZ hown (host := "") (Or.inl (own_w hw 22 rfl)) Via.refl e33 (cx.2.2.2.2.2.2.2.1.ext O26.2) (g := (mkF m 21 #[.val (.int p1), .val (.ref b_21), .val (.int (2 : Int32)), .val (.int (1 : Int32)), .val (.ref w_PROXY)] [(.ref w_PROXY)])) rfl rfl (hb hby d1_21)
  have q39 := fun t (kt : Go p e below T38 (mkF m 24 #[.val (.int p1), .val (.ref b_21), .val (.int (2 : Int32)), .val (.int (1 : Int32)), .val (.ref w_PROXY)] [(.int (407 : Int32))]) t) => q37 t (st38 t kt)
  have q40 := fun t (kt : Go p e below T38 (mkF m 38 #[.val (.int p1), .val (.ref b_21), .val (.int (2 : Int32)), .val (.int (2 : Int32)), .val (.ref w_PROXY)] [.null]) t) => q39 t (by
    show Go p e below T38 (mkF m 24 #[.val (.int p1), .val (.ref b_21), .val (.int (2 : Int32)), .val (.int (1 : Int32)), .val (.ref w_PROXY)] [(.int (407 : Int32))]) _
    refine XS.iloadN X38.here hx rfl (hb hby d1_24) rfl ?_
    show Go p e below T38 (mkF m 25 #[.val (.int p1), .val (.ref b_21), .val (.int (2 : Int32)), .val (.int (1 : Int32)), .val (.ref w_PROXY)] [(.int p1), (.int (407 : Int32))]) _
    refine XS.icmpYes X38.here hx rfl (pc0 := 25) (pc' := 31) rfl (hb hby d1_25) rfl (feq (fun z => hq z.symm)).2 (by decide) (by decide) ?_
    show Go p e below T38 (mkF m 31 #[.val (.int p1), .val (.ref b_21), .val (.int (2 : Int32)), .val (.int (1 : Int32)), .val (.ref w_PROXY)] []) _
    refine XS.iinc X38.here hx rfl (hb hby d1_31) rfl (l' := #[.val (.int p1), .val (.ref b_21), .val (.int (2 : Int32)), .val (.int (2 : Int32)), .val (.ref w_PROXY)]) rfl ?_
    show Go p e below T38 (mkF m 34 #[.val (.int p1), .val (.ref b_21), .val (.int (2 : Int32)), .val (.int (2 : Int32)), .val (.ref w_PROXY)] []) _
    refine XS.goto X38.here hx rfl (pc0 := 34) (pc' := 9) rfl (hb hby d1_34) (by decide) (by decide) ?_
    show Go p e below T38 (mkF m 9 #[.val (.int p1), .val (.ref b_21), .val (.int (2 : Int32)), .val (.int (2 : Int32)), .val (.ref w_PROXY)] []) _
    refine XS.iloadN X38.here hx rfl (hb hby d1_9) rfl ?_
    show Go p e below T38 (mkF m 10 #[.val (.int p1), .val (.ref b_21), .val (.int (2 : Int32)), .val (.int (2 : Int32)), .val (.ref w_PROXY)] [(.int (2 : Int32))]) _
    refine XS.iloadN X38.here hx rfl (hb hby d1_10) rfl ?_
    show Go p e below T38 (mkF m 11 #[.val (.int p1), .val (.ref b_21), .val (.int (2 : Int32)), .val (.int (2 : Int32)), .val (.ref w_PROXY)] [(.int (2 : Int32)), (.int (2 : Int32))]) _
    refine XS.icmpYes X38.here hx rfl (pc0 := 11) (pc' := 37) rfl (hb hby d1_11) rfl (flt (by decide : ¬ ((2 : Int32) < (2 : Int32)))).2.1 (by decide) (by decide) ?_
    show Go p e below T38 (mkF m 37 #[.val (.int p1), .val (.ref b_21), .val (.int (2 : Int32)), .val (.int (2 : Int32)), .val (.ref w_PROXY)] []) _
    refine XS.aconstNull X38.here hx rfl (hb hby d1_37) ?_
    exact kt)
  exact ⟨some .null, T38, _, _, _, _, X38, by decide, by decide, nofun, q40, fun fs hr => retOut X38 hx hret rfl (Or.inr (Or.inr (Or.inr (Or.inr ⟨rfl, rfl, rfl⟩)))) (hb hby d1_38) hr, by rw [e38]; exact ⟨rfl, N22, K27⟩⟩
theorem ef_0_II (m : MethodId) (x0 : Int32) (x1 : Int32) : entryFrame m #[(.int x0), (.int x1)] maxLocals = mkF m 0 #[.val (.int x0), .val (.int x1), .unset, .unset, .unset, .unset] [] := by first | (simp [entryFrame, mkF, argsToLocals, Value.category, maxLocals]; done) | rfl
theorem pn_0 : plainName "com/example/vouchsafe/bearer/RoleChallengedWithPinLaw" = true := by first | (simp [plainName, overriddenIn]; done) | decide +kernel
theorem pd_1 : parseMethodDescriptor "(I)Lcom/example/vouchsafe/bearer/Role;" = some ⟨[.int], some (.object "com/example/vouchsafe/bearer/Role")⟩ := by decide +kernel
def Q_rm0 (Z : State) (p1 : Int32) (p2 : Int32) (w_REGISTRAR : Addr) (w_VAL : Addr) (w_PROXY : Addr) (kc_w_VAL : ClassId) (h0 : Heap) (n0 : Nat) (v : Option Value) (h : Heap) (L : List Loc) : Prop := v = some (.int (1 : Int32)) ∧ Fr n0 L
theorem rm0 (l : Launch) (Z : State) (a0 : Array Value) (hw : ∀ d ∈ tables_1, d.before a0 Z = true) (ws : List Jvm.Cond) {w_REGISTRAR : Addr} {w_VAL : Addr} {w_PROXY : Addr} {kc_w_VAL : ClassId} (cx : Cx Z w_REGISTRAR w_VAL w_PROXY kc_w_VAL) (p1 : Int32) (p2 : Int32) (h0 : Heap) (n0 : Nat) (O0 : Old Z n0 h0) :
    OwnMet l x (Jvm.Cond.code x code maxLocals ret :: ws) room_1 #[(.int p1), (.int p2)] Z h0 (Q_rm0 Z p1 p2 w_REGISTRAR w_VAL w_PROXY kc_w_VAL h0 n0) := by
  refine own_body (plainFor_of_name pn_0) hisR fun p e s m below meth c s₁ hx hby hml hown hnm hret hZ X0 e0 => ?_
  have N0 := Fr.nil n0
  have pre0 : ∀ t, Go p e below s₁ (mkF m 0 #[.val (.int p1), .val (.int p2), .unset, .unset, .unset, .unset] []) t → Go p e below s₁ (entryFrame m #[(.int p1), (.int p2)] maxLocals) t := fun t k => castTop (ef_0_II m p1 p2) k
  have q21 := fun t (kt : Go p e below s₁ (mkF m 5 #[.val (.int p1), .val (.int p2), .val (.int (p1 &&& (3 : Int32))), .unset, .unset, .unset] [(.int (p1 &&& (3 : Int32)))]) t) => pre0 t (by
    show Go p e below s₁ (mkF m 0 #[.val (.int p1), .val (.int p2), .unset, .unset, .unset, .unset] []) _
    refine XS.iloadN X0.here hx rfl (hb hby at_0) rfl ?_
    show Go p e below s₁ (mkF m 1 #[.val (.int p1), .val (.int p2), .unset, .unset, .unset, .unset] [(.int p1)]) _
    refine XS.iconst X0.here hx rfl (hb hby at_1) ?_
    show Go p e below s₁ (mkF m 2 #[.val (.int p1), .val (.int p2), .unset, .unset, .unset, .unset] [(.int (3 : Int32)), (.int p1)]) _
    refine XS.iand X0.here hx rfl (hb hby at_2) rfl ?_
    show Go p e below s₁ (mkF m 3 #[.val (.int p1), .val (.int p2), .unset, .unset, .unset, .unset] [(.int (p1 &&& (3 : Int32)))]) _
    refine XS.istoreN X0.here hx rfl (hb hby at_3) rfl (l' := #[.val (.int p1), .val (.int p2), .val (.int (p1 &&& (3 : Int32))), .unset, .unset, .unset]) rfl ?_
    show Go p e below s₁ (mkF m 4 #[.val (.int p1), .val (.int p2), .val (.int (p1 &&& (3 : Int32))), .unset, .unset, .unset] []) _
    refine XS.iloadN X0.here hx rfl (hb hby at_4) rfl ?_
    exact kt)
  by_cases hc22 : (p1 &&& (3 : Int32)) = (0 : Int32)
  · have q23 := fun t (kt : Go p e below s₁ (mkF m 53 #[.val (.int p1), .val (.int p2), .val (.int (p1 &&& (3 : Int32))), .val (.int (401 : Int32)), .unset, .unset] []) t) => q21 t (by
      show Go p e below s₁ (mkF m 5 #[.val (.int p1), .val (.int p2), .val (.int (p1 &&& (3 : Int32))), .unset, .unset, .unset] [(.int (p1 &&& (3 : Int32)))]) _
      refine XS.ifNo X0.here hx rfl (hb hby at_5) rfl ((if0 _ _).trans (teq hc22).2) ?_
      show Go p e below s₁ (mkF m 8 #[.val (.int p1), .val (.int p2), .val (.int (p1 &&& (3 : Int32))), .unset, .unset, .unset] []) _
      refine XS.sipush X0.here hx rfl (hb hby at_8) ?_
      show Go p e below s₁ (mkF m 11 #[.val (.int p1), .val (.int p2), .val (.int (p1 &&& (3 : Int32))), .unset, .unset, .unset] [(.int (401 : Int32))]) _
      refine XS.istoreN X0.here hx rfl (hb hby at_11) rfl (l' := #[.val (.int p1), .val (.int p2), .val (.int (p1 &&& (3 : Int32))), .val (.int (401 : Int32)), .unset, .unset]) rfl ?_
      show Go p e below s₁ (mkF m 12 #[.val (.int p1), .val (.int p2), .val (.int (p1 &&& (3 : Int32))), .val (.int (401 : Int32)), .unset, .unset] []) _
      refine XS.goto X0.here hx rfl (pc0 := 12) (pc' := 46) rfl (hb hby at_12) (by decide) (by decide) ?_
      show Go p e below s₁ (mkF m 46 #[.val (.int p1), .val (.int p2), .val (.int (p1 &&& (3 : Int32))), .val (.int (401 : Int32)), .unset, .unset] []) _
      refine XS.iloadN X0.here hx rfl (hb hby at_46) rfl ?_
      show Go p e below s₁ (mkF m 47 #[.val (.int p1), .val (.int p2), .val (.int (p1 &&& (3 : Int32))), .val (.int (401 : Int32)), .unset, .unset] [(.int (401 : Int32))]) _
      refine XS.sipush X0.here hx rfl (hb hby at_47) ?_
      show Go p e below s₁ (mkF m 50 #[.val (.int p1), .val (.int p2), .val (.int (p1 &&& (3 : Int32))), .val (.int (401 : Int32)), .unset, .unset] [(.int (401 : Int32)), (.int (401 : Int32))]) _
      refine XS.icmpNo X0.here hx rfl (hb hby at_50) rfl (teq (rfl : (401 : Int32) = (401 : Int32))).2 ?_
      exact kt)
    obtain ⟨T24, X24, e24, st24⟩ := getS2 X0 hx hZ hown (host := "") (Or.inl (own_w hw 0 rfl)) Via.refl e0 (cx.1.ext O0.2) (g := (mkF m 53 #[.val (.int p1), .val (.int p2), .val (.int (p1 &&& (3 : Int32))), .val (.int (401 : Int32)), .unset, .unset] [])) rfl (hb hby at_53)
    have q25 := fun t (kt : Go p e below T24 (mkF m 56 #[.val (.int p1), .val (.int p2), .val (.int (p1 &&& (3 : Int32))), .val (.int (401 : Int32)), .unset, .unset] [(.ref w_REGISTRAR)]) t) => q23 t (st24 t kt)
    have q26 := fun t (kt : Go p e below T24 (mkF m 80 #[.val (.int p1), .val (.int p2), .val (.int (p1 &&& (3 : Int32))), .val (.int (401 : Int32)), .val (.ref w_REGISTRAR), .unset] [(.int (401 : Int32))]) t) => q25 t (by
      show Go p e below T24 (mkF m 56 #[.val (.int p1), .val (.int p2), .val (.int (p1 &&& (3 : Int32))), .val (.int (401 : Int32)), .unset, .unset] [(.ref w_REGISTRAR)]) _
      refine XS.astore X24.here hx rfl (hb hby at_56) rfl rfl (l' := #[.val (.int p1), .val (.int p2), .val (.int (p1 &&& (3 : Int32))), .val (.int (401 : Int32)), .val (.ref w_REGISTRAR), .unset]) rfl ?_
      show Go p e below T24 (mkF m 58 #[.val (.int p1), .val (.int p2), .val (.int (p1 &&& (3 : Int32))), .val (.int (401 : Int32)), .val (.ref w_REGISTRAR), .unset] []) _
      refine XS.goto X24.here hx rfl (pc0 := 58) (pc' := 79) rfl (hb hby at_58) (by decide) (by decide) ?_
      show Go p e below T24 (mkF m 79 #[.val (.int p1), .val (.int p2), .val (.int (p1 &&& (3 : Int32))), .val (.int (401 : Int32)), .val (.ref w_REGISTRAR), .unset] []) _
      refine XS.iloadN X24.here hx rfl (hb hby at_79) rfl ?_
      exact kt)
    obtain ⟨_, _, ⟨T27, L27, k27, n27⟩, -, X27, ⟨Lc27, hQ27, l27, y27, z27⟩, st27⟩ := Jvm.LawKit.callS X24 hx (y := (⟨"com/example/vouchsafe/bearer/Role", "challengedWith", "(I)Lcom/example/vouchsafe/bearer/Role;"⟩ : MethodName)) hown (mvT hZ (own_w hw 3 rfl)) (mvT hZ (own_w hw 4 rfl)) (mvT hZ (own_w hw 1 rfl)) (mvT hZ (own_w hw 5 rfl)) (by decide) (backOf (W := 0) (rm1_0 l Z a0 hw [] cx (401 : Int32) h0 n0 O0 (rfl : (401 : Int32) = (401 : Int32))) hZ (own_w hw 5 rfl) (own_w hw 1 rfl) (by decide) (by decide)) (g := (mkF m 80 #[.val (.int p1), .val (.int p2), .val (.int (p1 &&& (3 : Int32))), .val (.int (401 : Int32)), .val (.ref w_REGISTRAR), .unset] [(.int (401 : Int32))])) rfl (by rw [hml]; rfl) (argsL := [(.int (401 : Int32))]) (rest := []) (lenOf pd_1 rfl) rfl (by show 2 * 0 + _ ≤ _; exact Nat.le_of_eq rfl) (hb hby at_80) (fun _ _ => ⟨rfl, e24, (by decide : 0 + 1 ≤ _), (by decide : 0 + 2 ≤ _)⟩)
    dsimp only [Pt.U, Pt.locs, Pt.cells, Pt.slots] at X27 l27 y27 z27 st27 hQ27
    subst l27 y27 z27
    obtain ⟨rfl, Nq27, Kq27⟩ := hQ27
    have N28 := Fr.app N0 Nq27
    have q29 := fun t (kt : Go p e below T27 (mkF m 83 #[.val (.int p1), .val (.int p2), .val (.int (p1 &&& (3 : Int32))), .val (.int (401 : Int32)), .val (.ref w_REGISTRAR), .unset] [(.ref w_REGISTRAR)]) t) => q26 t (st27 t kt)
    have O30 : Old Z n0 T27.heap := O0.keep Kq27 all0
    have q31 := fun t (kt : Go p e below T27 (mkF m 97 #[.val (.int p1), .val (.int p2), .val (.int (p1 &&& (3 : Int32))), .val (.int (401 : Int32)), .val (.ref w_REGISTRAR), .val (.ref w_REGISTRAR)] [(.int (1 : Int32))]) t) => q29 t (by
      show Go p e below T27 (mkF m 83 #[.val (.int p1), .val (.int p2), .val (.int (p1 &&& (3 : Int32))), .val (.int (401 : Int32)), .val (.ref w_REGISTRAR), .unset] [(.ref w_REGISTRAR)]) _
      refine XS.astore X27.here hx rfl (hb hby at_83) rfl rfl (l' := #[.val (.int p1), .val (.int p2), .val (.int (p1 &&& (3 : Int32))), .val (.int (401 : Int32)), .val (.ref w_REGISTRAR), .val (.ref w_REGISTRAR)]) rfl ?_
      show Go p e below T27 (mkF m 85 #[.val (.int p1), .val (.int p2), .val (.int (p1 &&& (3 : Int32))), .val (.int (401 : Int32)), .val (.ref w_REGISTRAR), .val (.ref w_REGISTRAR)] []) _
      refine XS.aload X27.here hx rfl (hb hby at_85) rfl rfl ?_
      show Go p e below T27 (mkF m 87 #[.val (.int p1), .val (.int p2), .val (.int (p1 &&& (3 : Int32))), .val (.int (401 : Int32)), .val (.ref w_REGISTRAR), .val (.ref w_REGISTRAR)] [(.ref w_REGISTRAR)]) _
      refine XS.aload X27.here hx rfl (hb hby at_87) rfl rfl ?_
      show Go p e below T27 (mkF m 89 #[.val (.int p1), .val (.int p2), .val (.int (p1 &&& (3 : Int32))), .val (.int (401 : Int32)), .val (.ref w_REGISTRAR), .val (.ref w_REGISTRAR)] [(.ref w_REGISTRAR), (.ref w_REGISTRAR)]) _
      refine Jvm.RoadKit.acmp (g := (mkF m 89 #[.val (.int p1), .val (.int p2), .val (.int (p1 &&& (3 : Int32))), .val (.int (401 : Int32)), .val (.ref w_REGISTRAR), .val (.ref w_REGISTRAR)] [(.ref w_REGISTRAR), (.ref w_REGISTRAR)])) X27 hx rfl rfl rfl (pc0 := 89) (pc' := 92) (same := true) rfl (hb hby at_89) rfl (decide_eq_true rfl) (by decide) (by decide) ?_
      show Go p e below T27 (mkF m 92 #[.val (.int p1), .val (.int p2), .val (.int (p1 &&& (3 : Int32))), .val (.int (401 : Int32)), .val (.ref w_REGISTRAR), .val (.ref w_REGISTRAR)] []) _
      refine XS.iconst X27.here hx rfl (hb hby at_92) ?_
      show Go p e below T27 (mkF m 93 #[.val (.int p1), .val (.int p2), .val (.int (p1 &&& (3 : Int32))), .val (.int (401 : Int32)), .val (.ref w_REGISTRAR), .val (.ref w_REGISTRAR)] [(.int (1 : Int32))]) _
      refine XS.goto X27.here hx rfl (pc0 := 93) (pc' := 97) rfl (hb hby at_93) (by decide) (by decide) ?_
      exact kt)
    exact ⟨some (.int (1 : Int32)), T27, _, _, _, _, X27, by decide, by decide, nofun, q31, fun fs hr => retN X27 hx (t := .boolean) hret (by simp) (hb hby at_97) hr, ⟨rfl, N28⟩⟩
  · have q32 := fun t (kt : Go p e below s₁ (mkF m 17 #[.val (.int p1), .val (.int p2), .val (.int (p1 &&& (3 : Int32))), .unset, .unset, .unset] [(.int (1 : Int32)), (.int (p1 &&& (3 : Int32)))]) t) => q21 t (by
      show Go p e below s₁ (mkF m 5 #[.val (.int p1), .val (.int p2), .val (.int (p1 &&& (3 : Int32))), .unset, .unset, .unset] [(.int (p1 &&& (3 : Int32)))]) _
      refine XS.ifYes X0.here hx rfl (pc0 := 5) (pc' := 15) rfl (hb hby at_5) rfl ((if0 _ _).trans (feq hc22).2) (by decide) (by decide) ?_
      show Go p e below s₁ (mkF m 15 #[.val (.int p1), .val (.int p2), .val (.int (p1 &&& (3 : Int32))), .unset, .unset, .unset] []) _
      refine XS.iloadN X0.here hx rfl (hb hby at_15) rfl ?_
      show Go p e below s₁ (mkF m 16 #[.val (.int p1), .val (.int p2), .val (.int (p1 &&& (3 : Int32))), .unset, .unset, .unset] [(.int (p1 &&& (3 : Int32)))]) _
      refine XS.iconst X0.here hx rfl (hb hby at_16) ?_
      exact kt)
    by_cases hc33 : (p1 &&& (3 : Int32)) = (1 : Int32)
    · have q34 := fun t (kt : Go p e below s₁ (mkF m 68 #[.val (.int p1), .val (.int p2), .val (.int (p1 &&& (3 : Int32))), .val (.int (407 : Int32)), .unset, .unset] []) t) => q32 t (by
        show Go p e below s₁ (mkF m 17 #[.val (.int p1), .val (.int p2), .val (.int (p1 &&& (3 : Int32))), .unset, .unset, .unset] [(.int (1 : Int32)), (.int (p1 &&& (3 : Int32)))]) _
        refine XS.icmpNo X0.here hx rfl (hb hby at_17) rfl (teq hc33).2 ?_
        show Go p e below s₁ (mkF m 20 #[.val (.int p1), .val (.int p2), .val (.int (p1 &&& (3 : Int32))), .unset, .unset, .unset] []) _
        refine XS.sipush X0.here hx rfl (hb hby at_20) ?_
        show Go p e below s₁ (mkF m 23 #[.val (.int p1), .val (.int p2), .val (.int (p1 &&& (3 : Int32))), .unset, .unset, .unset] [(.int (407 : Int32))]) _
        refine XS.istoreN X0.here hx rfl (hb hby at_23) rfl (l' := #[.val (.int p1), .val (.int p2), .val (.int (p1 &&& (3 : Int32))), .val (.int (407 : Int32)), .unset, .unset]) rfl ?_
        show Go p e below s₁ (mkF m 24 #[.val (.int p1), .val (.int p2), .val (.int (p1 &&& (3 : Int32))), .val (.int (407 : Int32)), .unset, .unset] []) _
        refine XS.goto X0.here hx rfl (pc0 := 24) (pc' := 46) rfl (hb hby at_24) (by decide) (by decide) ?_
        show Go p e below s₁ (mkF m 46 #[.val (.int p1), .val (.int p2), .val (.int (p1 &&& (3 : Int32))), .val (.int (407 : Int32)), .unset, .unset] []) _
        refine XS.iloadN X0.here hx rfl (hb hby at_46) rfl ?_
        show Go p e below s₁ (mkF m 47 #[.val (.int p1), .val (.int p2), .val (.int (p1 &&& (3 : Int32))), .val (.int (407 : Int32)), .unset, .unset] [(.int (407 : Int32))]) _
        refine XS.sipush X0.here hx rfl (hb hby at_47) ?_
        show Go p e below s₁ (mkF m 50 #[.val (.int p1), .val (.int p2), .val (.int (p1 &&& (3 : Int32))), .val (.int (407 : Int32)), .unset, .unset] [(.int (401 : Int32)), (.int (407 : Int32))]) _
        refine XS.icmpYes X0.here hx rfl (pc0 := 50) (pc' := 61) rfl (hb hby at_50) rfl (feq (by decide : ¬ ((407 : Int32) = (401 : Int32)))).2 (by decide) (by decide) ?_
        show Go p e below s₁ (mkF m 61 #[.val (.int p1), .val (.int p2), .val (.int (p1 &&& (3 : Int32))), .val (.int (407 : Int32)), .unset, .unset] []) _
        refine XS.iloadN X0.here hx rfl (hb hby at_61) rfl ?_
        show Go p e below s₁ (mkF m 62 #[.val (.int p1), .val (.int p2), .val (.int (p1 &&& (3 : Int32))), .val (.int (407 : Int32)), .unset, .unset] [(.int (407 : Int32))]) _
        refine XS.sipush X0.here hx rfl (hb hby at_62) ?_
        show Go p e below s₁ (mkF m 65 #[.val (.int p1), .val (.int p2), .val (.int (p1 &&& (3 : Int32))), .val (.int (407 : Int32)), .unset, .unset] [(.int (407 : Int32)), (.int (407 : Int32))]) _
        refine XS.icmpNo X0.here hx rfl (hb hby at_65) rfl (teq (rfl : (407 : Int32) = (407 : Int32))).2 ?_
        exact kt)
      obtain ⟨T35, X35, e35, st35⟩ := getS2 X0 hx hZ hown (host := "") (Or.inl (own_w hw 24 rfl)) Via.refl e0 (cx.2.2.2.2.1.ext O0.2) (g := (mkF m 68 #[.val (.int p1), .val (.int p2), .val (.int (p1 &&& (3 : Int32))), .val (.int (407 : Int32)), .unset, .unset] [])) rfl (hb hby at_68)
      have q36 := fun t (kt : Go p e below T35 (mkF m 71 #[.val (.int p1), .val (.int p2), .val (.int (p1 &&& (3 : Int32))), .val (.int (407 : Int32)), .unset, .unset] [(.ref w_PROXY)]) t) => q34 t (st35 t kt)
      have q37 := fun t (kt : Go p e below T35 (mkF m 80 #[.val (.int p1), .val (.int p2), .val (.int (p1 &&& (3 : Int32))), .val (.int (407 : Int32)), .val (.ref w_PROXY), .unset] [(.int (407 : Int32))]) t) => q36 t (by
        show Go p e below T35 (mkF m 71 #[.val (.int p1), .val (.int p2), .val (.int (p1 &&& (3 : Int32))), .val (.int (407 : Int32)), .unset, .unset] [(.ref w_PROXY)]) _
        refine XS.astore X35.here hx rfl (hb hby at_71) rfl rfl (l' := #[.val (.int p1), .val (.int p2), .val (.int (p1 &&& (3 : Int32))), .val (.int (407 : Int32)), .val (.ref w_PROXY), .unset]) rfl ?_
        show Go p e below T35 (mkF m 73 #[.val (.int p1), .val (.int p2), .val (.int (p1 &&& (3 : Int32))), .val (.int (407 : Int32)), .val (.ref w_PROXY), .unset] []) _
        refine XS.goto X35.here hx rfl (pc0 := 73) (pc' := 79) rfl (hb hby at_73) (by decide) (by decide) ?_
        show Go p e below T35 (mkF m 79 #[.val (.int p1), .val (.int p2), .val (.int (p1 &&& (3 : Int32))), .val (.int (407 : Int32)), .val (.ref w_PROXY), .unset] []) _
        refine XS.iloadN X35.here hx rfl (hb hby at_79) rfl ?_
        exact kt)
      obtain ⟨_, _, ⟨T38, L38, k38, n38⟩, -, X38, ⟨Lc38, hQ38, l38, y38, z38⟩, st38⟩ := Jvm.LawKit.callS X35 hx (y := (⟨"com/example/vouchsafe/bearer/Role", "challengedWith", "(I)Lcom/example/vouchsafe/bearer/Role;"⟩ : MethodName)) hown (mvT hZ (own_w hw 3 rfl)) (mvT hZ (own_w hw 4 rfl)) (mvT hZ (own_w hw 1 rfl)) (mvT hZ (own_w hw 5 rfl)) (by decide) (backOf (W := 0) (rm1_1 l Z a0 hw [] cx (407 : Int32) h0 n0 O0 (by decide : ¬ ((407 : Int32) = (401 : Int32))) (rfl : (407 : Int32) = (407 : Int32))) hZ (own_w hw 5 rfl) (own_w hw 1 rfl) (by decide) (by decide)) (g := (mkF m 80 #[.val (.int p1), .val (.int p2), .val (.int (p1 &&& (3 : Int32))), .val (.int (407 : Int32)), .val (.ref w_PROXY), .unset] [(.int (407 : Int32))])) rfl (by rw [hml]; rfl) (argsL := [(.int (407 : Int32))]) (rest := []) (lenOf pd_1 rfl) rfl (by show 2 * 0 + _ ≤ _; exact Nat.le_of_eq rfl) (hb hby at_80) (fun _ _ => ⟨rfl, e35, (by decide : 0 + 1 ≤ _), (by decide : 0 + 2 ≤ _)⟩)
      dsimp only [Pt.U, Pt.locs, Pt.cells, Pt.slots] at X38 l38 y38 z38 st38 hQ38
      subst l38 y38 z38
      obtain ⟨rfl, Nq38, Kq38⟩ := hQ38
      have N39 := Fr.app N0 Nq38
      have q40 := fun t (kt : Go p e below T38 (mkF m 83 #[.val (.int p1), .val (.int p2), .val (.int (p1 &&& (3 : Int32))), .val (.int (407 : Int32)), .val (.ref w_PROXY), .unset] [(.ref w_PROXY)]) t) => q37 t (st38 t kt)
      have O41 : Old Z n0 T38.heap := O0.keep Kq38 all0
      have q42 := fun t (kt : Go p e below T38 (mkF m 97 #[.val (.int p1), .val (.int p2), .val (.int (p1 &&& (3 : Int32))), .val (.int (407 : Int32)), .val (.ref w_PROXY), .val (.ref w_PROXY)] [(.int (1 : Int32))]) t) => q40 t (by
        show Go p e below T38 (mkF m 83 #[.val (.int p1), .val (.int p2), .val (.int (p1 &&& (3 : Int32))), .val (.int (407 : Int32)), .val (.ref w_PROXY), .unset] [(.ref w_PROXY)]) _
        refine XS.astore X38.here hx rfl (hb hby at_83) rfl rfl (l' := #[.val (.int p1), .val (.int p2), .val (.int (p1 &&& (3 : Int32))), .val (.int (407 : Int32)), .val (.ref w_PROXY), .val (.ref w_PROXY)]) rfl ?_
        show Go p e below T38 (mkF m 85 #[.val (.int p1), .val (.int p2), .val (.int (p1 &&& (3 : Int32))), .val (.int (407 : Int32)), .val (.ref w_PROXY), .val (.ref w_PROXY)] []) _
        refine XS.aload X38.here hx rfl (hb hby at_85) rfl rfl ?_
        show Go p e below T38 (mkF m 87 #[.val (.int p1), .val (.int p2), .val (.int (p1 &&& (3 : Int32))), .val (.int (407 : Int32)), .val (.ref w_PROXY), .val (.ref w_PROXY)] [(.ref w_PROXY)]) _
        refine XS.aload X38.here hx rfl (hb hby at_87) rfl rfl ?_
        show Go p e below T38 (mkF m 89 #[.val (.int p1), .val (.int p2), .val (.int (p1 &&& (3 : Int32))), .val (.int (407 : Int32)), .val (.ref w_PROXY), .val (.ref w_PROXY)] [(.ref w_PROXY), (.ref w_PROXY)]) _
        refine Jvm.RoadKit.acmp (g := (mkF m 89 #[.val (.int p1), .val (.int p2), .val (.int (p1 &&& (3 : Int32))), .val (.int (407 : Int32)), .val (.ref w_PROXY), .val (.ref w_PROXY)] [(.ref w_PROXY), (.ref w_PROXY)])) X38 hx rfl rfl rfl (pc0 := 89) (pc' := 92) (same := true) rfl (hb hby at_89) rfl (decide_eq_true rfl) (by decide) (by decide) ?_
        show Go p e below T38 (mkF m 92 #[.val (.int p1), .val (.int p2), .val (.int (p1 &&& (3 : Int32))), .val (.int (407 : Int32)), .val (.ref w_PROXY), .val (.ref w_PROXY)] []) _
        refine XS.iconst X38.here hx rfl (hb hby at_92) ?_
        show Go p e below T38 (mkF m 93 #[.val (.int p1), .val (.int p2), .val (.int (p1 &&& (3 : Int32))), .val (.int (407 : Int32)), .val (.ref w_PROXY), .val (.ref w_PROXY)] [(.int (1 : Int32))]) _
        refine XS.goto X38.here hx rfl (pc0 := 93) (pc' := 97) rfl (hb hby at_93) (by decide) (by decide) ?_
        exact kt)
      exact ⟨some (.int (1 : Int32)), T38, _, _, _, _, X38, by decide, by decide, nofun, q42, fun fs hr => retN X38 hx (t := .boolean) hret (by simp) (hb hby at_97) hr, ⟨rfl, N39⟩⟩
    · have q43 := fun t (kt : Go p e below s₁ (mkF m 29 #[.val (.int p1), .val (.int p2), .val (.int (p1 &&& (3 : Int32))), .unset, .unset, .unset] [(.int (2 : Int32)), (.int (p1 &&& (3 : Int32)))]) t) => q32 t (by
        show Go p e below s₁ (mkF m 17 #[.val (.int p1), .val (.int p2), .val (.int (p1 &&& (3 : Int32))), .unset, .unset, .unset] [(.int (1 : Int32)), (.int (p1 &&& (3 : Int32)))]) _
        refine XS.icmpYes X0.here hx rfl (pc0 := 17) (pc' := 27) rfl (hb hby at_17) rfl (feq hc33).2 (by decide) (by decide) ?_
        show Go p e below s₁ (mkF m 27 #[.val (.int p1), .val (.int p2), .val (.int (p1 &&& (3 : Int32))), .unset, .unset, .unset] []) _
        refine XS.iloadN X0.here hx rfl (hb hby at_27) rfl ?_
        show Go p e below s₁ (mkF m 28 #[.val (.int p1), .val (.int p2), .val (.int (p1 &&& (3 : Int32))), .unset, .unset, .unset] [(.int (p1 &&& (3 : Int32)))]) _
        refine XS.iconst X0.here hx rfl (hb hby at_28) ?_
        exact kt)
      by_cases hc44 : (p1 &&& (3 : Int32)) = (2 : Int32)
      · have q45 := fun t (kt : Go p e below s₁ (mkF m 50 #[.val (.int p1), .val (.int p2), .val (.int (p1 &&& (3 : Int32))), .val (.int ((400 : Int32) + (p2 &&& (15 : Int32)))), .unset, .unset] [(.int (401 : Int32)), (.int ((400 : Int32) + (p2 &&& (15 : Int32))))]) t) => q43 t (by
          show Go p e below s₁ (mkF m 29 #[.val (.int p1), .val (.int p2), .val (.int (p1 &&& (3 : Int32))), .unset, .unset, .unset] [(.int (2 : Int32)), (.int (p1 &&& (3 : Int32)))]) _
          refine XS.icmpNo X0.here hx rfl (hb hby at_29) rfl (teq hc44).2 ?_
          show Go p e below s₁ (mkF m 32 #[.val (.int p1), .val (.int p2), .val (.int (p1 &&& (3 : Int32))), .unset, .unset, .unset] []) _
          refine XS.sipush X0.here hx rfl (hb hby at_32) ?_
          show Go p e below s₁ (mkF m 35 #[.val (.int p1), .val (.int p2), .val (.int (p1 &&& (3 : Int32))), .unset, .unset, .unset] [(.int (400 : Int32))]) _
          refine XS.iloadN X0.here hx rfl (hb hby at_35) rfl ?_
          show Go p e below s₁ (mkF m 36 #[.val (.int p1), .val (.int p2), .val (.int (p1 &&& (3 : Int32))), .unset, .unset, .unset] [(.int p2), (.int (400 : Int32))]) _
          refine XS.bipush X0.here hx rfl (hb hby at_36) ?_
          show Go p e below s₁ (mkF m 38 #[.val (.int p1), .val (.int p2), .val (.int (p1 &&& (3 : Int32))), .unset, .unset, .unset] [(.int (15 : Int32)), (.int p2), (.int (400 : Int32))]) _
          refine XS.iand X0.here hx rfl (hb hby at_38) rfl ?_
          show Go p e below s₁ (mkF m 39 #[.val (.int p1), .val (.int p2), .val (.int (p1 &&& (3 : Int32))), .unset, .unset, .unset] [(.int (p2 &&& (15 : Int32))), (.int (400 : Int32))]) _
          refine XS.iadd X0.here hx rfl (hb hby at_39) rfl ?_
          show Go p e below s₁ (mkF m 40 #[.val (.int p1), .val (.int p2), .val (.int (p1 &&& (3 : Int32))), .unset, .unset, .unset] [(.int ((400 : Int32) + (p2 &&& (15 : Int32))))]) _
          refine XS.istoreN X0.here hx rfl (hb hby at_40) rfl (l' := #[.val (.int p1), .val (.int p2), .val (.int (p1 &&& (3 : Int32))), .val (.int ((400 : Int32) + (p2 &&& (15 : Int32)))), .unset, .unset]) rfl ?_
          show Go p e below s₁ (mkF m 41 #[.val (.int p1), .val (.int p2), .val (.int (p1 &&& (3 : Int32))), .val (.int ((400 : Int32) + (p2 &&& (15 : Int32)))), .unset, .unset] []) _
          refine XS.goto X0.here hx rfl (pc0 := 41) (pc' := 46) rfl (hb hby at_41) (by decide) (by decide) ?_
          show Go p e below s₁ (mkF m 46 #[.val (.int p1), .val (.int p2), .val (.int (p1 &&& (3 : Int32))), .val (.int ((400 : Int32) + (p2 &&& (15 : Int32)))), .unset, .unset] []) _
          refine XS.iloadN X0.here hx rfl (hb hby at_46) rfl ?_
          show Go p e below s₁ (mkF m 47 #[.val (.int p1), .val (.int p2), .val (.int (p1 &&& (3 : Int32))), .val (.int ((400 : Int32) + (p2 &&& (15 : Int32)))), .unset, .unset] [(.int ((400 : Int32) + (p2 &&& (15 : Int32))))]) _
          refine XS.sipush X0.here hx rfl (hb hby at_47) ?_
          exact kt)
        by_cases hc46 : ((400 : Int32) + (p2 &&& (15 : Int32))) = (401 : Int32)
        · have q47 := fun t (kt : Go p e below s₁ (mkF m 53 #[.val (.int p1), .val (.int p2), .val (.int (p1 &&& (3 : Int32))), .val (.int ((400 : Int32) + (p2 &&& (15 : Int32)))), .unset, .unset] []) t) => q45 t (by
            show Go p e below s₁ (mkF m 50 #[.val (.int p1), .val (.int p2), .val (.int (p1 &&& (3 : Int32))), .val (.int ((400 : Int32) + (p2 &&& (15 : Int32)))), .unset, .unset] [(.int (401 : Int32)), (.int ((400 : Int32) + (p2 &&& (15 : Int32))))]) _
            refine XS.icmpNo X0.here hx rfl (hb hby at_50) rfl (teq hc46).2 ?_
            exact kt)
          obtain ⟨T48, X48, e48, st48⟩ := getS2 X0 hx hZ hown (host := "") (Or.inl (own_w hw 0 rfl)) Via.refl e0 (cx.1.ext O0.2) (g := (mkF m 53 #[.val (.int p1), .val (.int p2), .val (.int (p1 &&& (3 : Int32))), .val (.int ((400 : Int32) + (p2 &&& (15 : Int32)))), .unset, .unset] [])) rfl (hb hby at_53)
          have q49 := fun t (kt : Go p e below T48 (mkF m 56 #[.val (.int p1), .val (.int p2), .val (.int (p1 &&& (3 : Int32))), .val (.int ((400 : Int32) + (p2 &&& (15 : Int32)))), .unset, .unset] [(.ref w_REGISTRAR)]) t) => q47 t (st48 t kt)
          have q50 := fun t (kt : Go p e below T48 (mkF m 80 #[.val (.int p1), .val (.int p2), .val (.int (p1 &&& (3 : Int32))), .val (.int ((400 : Int32) + (p2 &&& (15 : Int32)))), .val (.ref w_REGISTRAR), .unset] [(.int ((400 : Int32) + (p2 &&& (15 : Int32))))]) t) => q49 t (by
            show Go p e below T48 (mkF m 56 #[.val (.int p1), .val (.int p2), .val (.int (p1 &&& (3 : Int32))), .val (.int ((400 : Int32) + (p2 &&& (15 : Int32)))), .unset, .unset] [(.ref w_REGISTRAR)]) _
            refine XS.astore X48.here hx rfl (hb hby at_56) rfl rfl (l' := #[.val (.int p1), .val (.int p2), .val (.int (p1 &&& (3 : Int32))), .val (.int ((400 : Int32) + (p2 &&& (15 : Int32)))), .val (.ref w_REGISTRAR), .unset]) rfl ?_
            show Go p e below T48 (mkF m 58 #[.val (.int p1), .val (.int p2), .val (.int (p1 &&& (3 : Int32))), .val (.int ((400 : Int32) + (p2 &&& (15 : Int32)))), .val (.ref w_REGISTRAR), .unset] []) _
            refine XS.goto X48.here hx rfl (pc0 := 58) (pc' := 79) rfl (hb hby at_58) (by decide) (by decide) ?_
            show Go p e below T48 (mkF m 79 #[.val (.int p1), .val (.int p2), .val (.int (p1 &&& (3 : Int32))), .val (.int ((400 : Int32) + (p2 &&& (15 : Int32)))), .val (.ref w_REGISTRAR), .unset] []) _
            refine XS.iloadN X48.here hx rfl (hb hby at_79) rfl ?_
            exact kt)
          obtain ⟨_, _, ⟨T51, L51, k51, n51⟩, -, X51, ⟨Lc51, hQ51, l51, y51, z51⟩, st51⟩ := Jvm.LawKit.callS X48 hx (y := (⟨"com/example/vouchsafe/bearer/Role", "challengedWith", "(I)Lcom/example/vouchsafe/bearer/Role;"⟩ : MethodName)) hown (mvT hZ (own_w hw 3 rfl)) (mvT hZ (own_w hw 4 rfl)) (mvT hZ (own_w hw 1 rfl)) (mvT hZ (own_w hw 5 rfl)) (by decide) (backOf (W := 0) (rm1_0 l Z a0 hw [] cx ((400 : Int32) + (p2 &&& (15 : Int32))) h0 n0 O0 hc46) hZ (own_w hw 5 rfl) (own_w hw 1 rfl) (by decide) (by decide)) (g := (mkF m 80 #[.val (.int p1), .val (.int p2), .val (.int (p1 &&& (3 : Int32))), .val (.int ((400 : Int32) + (p2 &&& (15 : Int32)))), .val (.ref w_REGISTRAR), .unset] [(.int ((400 : Int32) + (p2 &&& (15 : Int32))))])) rfl (by rw [hml]; rfl) (argsL := [(.int ((400 : Int32) + (p2 &&& (15 : Int32))))]) (rest := []) (lenOf pd_1 rfl) rfl (by show 2 * 0 + _ ≤ _; exact Nat.le_of_eq rfl) (hb hby at_80) (fun _ _ => ⟨rfl, e48, (by decide : 0 + 1 ≤ _), (by decide : 0 + 2 ≤ _)⟩)
          dsimp only [Pt.U, Pt.locs, Pt.cells, Pt.slots] at X51 l51 y51 z51 st51 hQ51
          subst l51 y51 z51
          obtain ⟨rfl, Nq51, Kq51⟩ := hQ51
          have N52 := Fr.app N0 Nq51
          have q53 := fun t (kt : Go p e below T51 (mkF m 83 #[.val (.int p1), .val (.int p2), .val (.int (p1 &&& (3 : Int32))), .val (.int ((400 : Int32) + (p2 &&& (15 : Int32)))), .val (.ref w_REGISTRAR), .unset] [(.ref w_REGISTRAR)]) t) => q50 t (st51 t kt)
          have O54 : Old Z n0 T51.heap := O0.keep Kq51 all0
          have q55 := fun t (kt : Go p e below T51 (mkF m 97 #[.val (.int p1), .val (.int p2), .val (.int (p1 &&& (3 : Int32))), .val (.int ((400 : Int32) + (p2 &&& (15 : Int32)))), .val (.ref w_REGISTRAR), .val (.ref w_REGISTRAR)] [(.int (1 : Int32))]) t) => q53 t (by
            show Go p e below T51 (mkF m 83 #[.val (.int p1), .val (.int p2), .val (.int (p1 &&& (3 : Int32))), .val (.int ((400 : Int32) + (p2 &&& (15 : Int32)))), .val (.ref w_REGISTRAR), .unset] [(.ref w_REGISTRAR)]) _
            refine XS.astore X51.here hx rfl (hb hby at_83) rfl rfl (l' := #[.val (.int p1), .val (.int p2), .val (.int (p1 &&& (3 : Int32))), .val (.int ((400 : Int32) + (p2 &&& (15 : Int32)))), .val (.ref w_REGISTRAR), .val (.ref w_REGISTRAR)]) rfl ?_
            show Go p e below T51 (mkF m 85 #[.val (.int p1), .val (.int p2), .val (.int (p1 &&& (3 : Int32))), .val (.int ((400 : Int32) + (p2 &&& (15 : Int32)))), .val (.ref w_REGISTRAR), .val (.ref w_REGISTRAR)] []) _
            refine XS.aload X51.here hx rfl (hb hby at_85) rfl rfl ?_
            show Go p e below T51 (mkF m 87 #[.val (.int p1), .val (.int p2), .val (.int (p1 &&& (3 : Int32))), .val (.int ((400 : Int32) + (p2 &&& (15 : Int32)))), .val (.ref w_REGISTRAR), .val (.ref w_REGISTRAR)] [(.ref w_REGISTRAR)]) _
            refine XS.aload X51.here hx rfl (hb hby at_87) rfl rfl ?_
            show Go p e below T51 (mkF m 89 #[.val (.int p1), .val (.int p2), .val (.int (p1 &&& (3 : Int32))), .val (.int ((400 : Int32) + (p2 &&& (15 : Int32)))), .val (.ref w_REGISTRAR), .val (.ref w_REGISTRAR)] [(.ref w_REGISTRAR), (.ref w_REGISTRAR)]) _
            refine Jvm.RoadKit.acmp (g := (mkF m 89 #[.val (.int p1), .val (.int p2), .val (.int (p1 &&& (3 : Int32))), .val (.int ((400 : Int32) + (p2 &&& (15 : Int32)))), .val (.ref w_REGISTRAR), .val (.ref w_REGISTRAR)] [(.ref w_REGISTRAR), (.ref w_REGISTRAR)])) X51 hx rfl rfl rfl (pc0 := 89) (pc' := 92) (same := true) rfl (hb hby at_89) rfl (decide_eq_true rfl) (by decide) (by decide) ?_
            show Go p e below T51 (mkF m 92 #[.val (.int p1), .val (.int p2), .val (.int (p1 &&& (3 : Int32))), .val (.int ((400 : Int32) + (p2 &&& (15 : Int32)))), .val (.ref w_REGISTRAR), .val (.ref w_REGISTRAR)] []) _
            refine XS.iconst X51.here hx rfl (hb hby at_92) ?_
            show Go p e below T51 (mkF m 93 #[.val (.int p1), .val (.int p2), .val (.int (p1 &&& (3 : Int32))), .val (.int ((400 : Int32) + (p2 &&& (15 : Int32)))), .val (.ref w_REGISTRAR), .val (.ref w_REGISTRAR)] [(.int (1 : Int32))]) _
            refine XS.goto X51.here hx rfl (pc0 := 93) (pc' := 97) rfl (hb hby at_93) (by decide) (by decide) ?_
            exact kt)
          exact ⟨some (.int (1 : Int32)), T51, _, _, _, _, X51, by decide, by decide, nofun, q55, fun fs hr => retN X51 hx (t := .boolean) hret (by simp) (hb hby at_97) hr, ⟨rfl, N52⟩⟩
        · have q56 := fun t (kt : Go p e below s₁ (mkF m 65 #[.val (.int p1), .val (.int p2), .val (.int (p1 &&& (3 : Int32))), .val (.int ((400 : Int32) + (p2 &&& (15 : Int32)))), .unset, .unset] [(.int (407 : Int32)), (.int ((400 : Int32) + (p2 &&& (15 : Int32))))]) t) => q45 t (by
            show Go p e below s₁ (mkF m 50 #[.val (.int p1), .val (.int p2), .val (.int (p1 &&& (3 : Int32))), .val (.int ((400 : Int32) + (p2 &&& (15 : Int32)))), .unset, .unset] [(.int (401 : Int32)), (.int ((400 : Int32) + (p2 &&& (15 : Int32))))]) _
            refine XS.icmpYes X0.here hx rfl (pc0 := 50) (pc' := 61) rfl (hb hby at_50) rfl (feq hc46).2 (by decide) (by decide) ?_
            show Go p e below s₁ (mkF m 61 #[.val (.int p1), .val (.int p2), .val (.int (p1 &&& (3 : Int32))), .val (.int ((400 : Int32) + (p2 &&& (15 : Int32)))), .unset, .unset] []) _
            refine XS.iloadN X0.here hx rfl (hb hby at_61) rfl ?_
            show Go p e below s₁ (mkF m 62 #[.val (.int p1), .val (.int p2), .val (.int (p1 &&& (3 : Int32))), .val (.int ((400 : Int32) + (p2 &&& (15 : Int32)))), .unset, .unset] [(.int ((400 : Int32) + (p2 &&& (15 : Int32))))]) _
            refine XS.sipush X0.here hx rfl (hb hby at_62) ?_
            exact kt)
          by_cases hc57 : ((400 : Int32) + (p2 &&& (15 : Int32))) = (407 : Int32)
          · have q58 := fun t (kt : Go p e below s₁ (mkF m 68 #[.val (.int p1), .val (.int p2), .val (.int (p1 &&& (3 : Int32))), .val (.int ((400 : Int32) + (p2 &&& (15 : Int32)))), .unset, .unset] []) t) => q56 t (by
              show Go p e below s₁ (mkF m 65 #[.val (.int p1), .val (.int p2), .val (.int (p1 &&& (3 : Int32))), .val (.int ((400 : Int32) + (p2 &&& (15 : Int32)))), .unset, .unset] [(.int (407 : Int32)), (.int ((400 : Int32) + (p2 &&& (15 : Int32))))]) _
              refine XS.icmpNo X0.here hx rfl (hb hby at_65) rfl (teq hc57).2 ?_
              exact kt)
            obtain ⟨T59, X59, e59, st59⟩ := getS2 X0 hx hZ hown (host := "") (Or.inl (own_w hw 24 rfl)) Via.refl e0 (cx.2.2.2.2.1.ext O0.2) (g := (mkF m 68 #[.val (.int p1), .val (.int p2), .val (.int (p1 &&& (3 : Int32))), .val (.int ((400 : Int32) + (p2 &&& (15 : Int32)))), .unset, .unset] [])) rfl (hb hby at_68)
            have q60 := fun t (kt : Go p e below T59 (mkF m 71 #[.val (.int p1), .val (.int p2), .val (.int (p1 &&& (3 : Int32))), .val (.int ((400 : Int32) + (p2 &&& (15 : Int32)))), .unset, .unset] [(.ref w_PROXY)]) t) => q58 t (st59 t kt)
            have q61 := fun t (kt : Go p e below T59 (mkF m 80 #[.val (.int p1), .val (.int p2), .val (.int (p1 &&& (3 : Int32))), .val (.int ((400 : Int32) + (p2 &&& (15 : Int32)))), .val (.ref w_PROXY), .unset] [(.int ((400 : Int32) + (p2 &&& (15 : Int32))))]) t) => q60 t (by
              show Go p e below T59 (mkF m 71 #[.val (.int p1), .val (.int p2), .val (.int (p1 &&& (3 : Int32))), .val (.int ((400 : Int32) + (p2 &&& (15 : Int32)))), .unset, .unset] [(.ref w_PROXY)]) _
              refine XS.astore X59.here hx rfl (hb hby at_71) rfl rfl (l' := #[.val (.int p1), .val (.int p2), .val (.int (p1 &&& (3 : Int32))), .val (.int ((400 : Int32) + (p2 &&& (15 : Int32)))), .val (.ref w_PROXY), .unset]) rfl ?_
              show Go p e below T59 (mkF m 73 #[.val (.int p1), .val (.int p2), .val (.int (p1 &&& (3 : Int32))), .val (.int ((400 : Int32) + (p2 &&& (15 : Int32)))), .val (.ref w_PROXY), .unset] []) _
              refine XS.goto X59.here hx rfl (pc0 := 73) (pc' := 79) rfl (hb hby at_73) (by decide) (by decide) ?_
              show Go p e below T59 (mkF m 79 #[.val (.int p1), .val (.int p2), .val (.int (p1 &&& (3 : Int32))), .val (.int ((400 : Int32) + (p2 &&& (15 : Int32)))), .val (.ref w_PROXY), .unset] []) _
              refine XS.iloadN X59.here hx rfl (hb hby at_79) rfl ?_
              exact kt)
            obtain ⟨_, _, ⟨T62, L62, k62, n62⟩, -, X62, ⟨Lc62, hQ62, l62, y62, z62⟩, st62⟩ := Jvm.LawKit.callS X59 hx (y := (⟨"com/example/vouchsafe/bearer/Role", "challengedWith", "(I)Lcom/example/vouchsafe/bearer/Role;"⟩ : MethodName)) hown (mvT hZ (own_w hw 3 rfl)) (mvT hZ (own_w hw 4 rfl)) (mvT hZ (own_w hw 1 rfl)) (mvT hZ (own_w hw 5 rfl)) (by decide) (backOf (W := 0) (rm1_1 l Z a0 hw [] cx ((400 : Int32) + (p2 &&& (15 : Int32))) h0 n0 O0 hc46 hc57) hZ (own_w hw 5 rfl) (own_w hw 1 rfl) (by decide) (by decide)) (g := (mkF m 80 #[.val (.int p1), .val (.int p2), .val (.int (p1 &&& (3 : Int32))), .val (.int ((400 : Int32) + (p2 &&& (15 : Int32)))), .val (.ref w_PROXY), .unset] [(.int ((400 : Int32) + (p2 &&& (15 : Int32))))])) rfl (by rw [hml]; rfl) (argsL := [(.int ((400 : Int32) + (p2 &&& (15 : Int32))))]) (rest := []) (lenOf pd_1 rfl) rfl (by show 2 * 0 + _ ≤ _; exact Nat.le_of_eq rfl) (hb hby at_80) (fun _ _ => ⟨rfl, e59, (by decide : 0 + 1 ≤ _), (by decide : 0 + 2 ≤ _)⟩)
            dsimp only [Pt.U, Pt.locs, Pt.cells, Pt.slots] at X62 l62 y62 z62 st62 hQ62
            subst l62 y62 z62
            obtain ⟨rfl, Nq62, Kq62⟩ := hQ62
            have N63 := Fr.app N0 Nq62
            have q64 := fun t (kt : Go p e below T62 (mkF m 83 #[.val (.int p1), .val (.int p2), .val (.int (p1 &&& (3 : Int32))), .val (.int ((400 : Int32) + (p2 &&& (15 : Int32)))), .val (.ref w_PROXY), .unset] [(.ref w_PROXY)]) t) => q61 t (st62 t kt)
            have O65 : Old Z n0 T62.heap := O0.keep Kq62 all0
            have q66 := fun t (kt : Go p e below T62 (mkF m 97 #[.val (.int p1), .val (.int p2), .val (.int (p1 &&& (3 : Int32))), .val (.int ((400 : Int32) + (p2 &&& (15 : Int32)))), .val (.ref w_PROXY), .val (.ref w_PROXY)] [(.int (1 : Int32))]) t) => q64 t (by
              show Go p e below T62 (mkF m 83 #[.val (.int p1), .val (.int p2), .val (.int (p1 &&& (3 : Int32))), .val (.int ((400 : Int32) + (p2 &&& (15 : Int32)))), .val (.ref w_PROXY), .unset] [(.ref w_PROXY)]) _
              refine XS.astore X62.here hx rfl (hb hby at_83) rfl rfl (l' := #[.val (.int p1), .val (.int p2), .val (.int (p1 &&& (3 : Int32))), .val (.int ((400 : Int32) + (p2 &&& (15 : Int32)))), .val (.ref w_PROXY), .val (.ref w_PROXY)]) rfl ?_
              show Go p e below T62 (mkF m 85 #[.val (.int p1), .val (.int p2), .val (.int (p1 &&& (3 : Int32))), .val (.int ((400 : Int32) + (p2 &&& (15 : Int32)))), .val (.ref w_PROXY), .val (.ref w_PROXY)] []) _
              refine XS.aload X62.here hx rfl (hb hby at_85) rfl rfl ?_
              show Go p e below T62 (mkF m 87 #[.val (.int p1), .val (.int p2), .val (.int (p1 &&& (3 : Int32))), .val (.int ((400 : Int32) + (p2 &&& (15 : Int32)))), .val (.ref w_PROXY), .val (.ref w_PROXY)] [(.ref w_PROXY)]) _
              refine XS.aload X62.here hx rfl (hb hby at_87) rfl rfl ?_
              show Go p e below T62 (mkF m 89 #[.val (.int p1), .val (.int p2), .val (.int (p1 &&& (3 : Int32))), .val (.int ((400 : Int32) + (p2 &&& (15 : Int32)))), .val (.ref w_PROXY), .val (.ref w_PROXY)] [(.ref w_PROXY), (.ref w_PROXY)]) _
              refine Jvm.RoadKit.acmp (g := (mkF m 89 #[.val (.int p1), .val (.int p2), .val (.int (p1 &&& (3 : Int32))), .val (.int ((400 : Int32) + (p2 &&& (15 : Int32)))), .val (.ref w_PROXY), .val (.ref w_PROXY)] [(.ref w_PROXY), (.ref w_PROXY)])) X62 hx rfl rfl rfl (pc0 := 89) (pc' := 92) (same := true) rfl (hb hby at_89) rfl (decide_eq_true rfl) (by decide) (by decide) ?_
              show Go p e below T62 (mkF m 92 #[.val (.int p1), .val (.int p2), .val (.int (p1 &&& (3 : Int32))), .val (.int ((400 : Int32) + (p2 &&& (15 : Int32)))), .val (.ref w_PROXY), .val (.ref w_PROXY)] []) _
              refine XS.iconst X62.here hx rfl (hb hby at_92) ?_
              show Go p e below T62 (mkF m 93 #[.val (.int p1), .val (.int p2), .val (.int (p1 &&& (3 : Int32))), .val (.int ((400 : Int32) + (p2 &&& (15 : Int32)))), .val (.ref w_PROXY), .val (.ref w_PROXY)] [(.int (1 : Int32))]) _
              refine XS.goto X62.here hx rfl (pc0 := 93) (pc' := 97) rfl (hb hby at_93) (by decide) (by decide) ?_
              exact kt)
            exact ⟨some (.int (1 : Int32)), T62, _, _, _, _, X62, by decide, by decide, nofun, q66, fun fs hr => retN X62 hx (t := .boolean) hret (by simp) (hb hby at_97) hr, ⟨rfl, N63⟩⟩
          · have q67 := fun t (kt : Go p e below s₁ (mkF m 80 #[.val (.int p1), .val (.int p2), .val (.int (p1 &&& (3 : Int32))), .val (.int ((400 : Int32) + (p2 &&& (15 : Int32)))), .val .null, .unset] [(.int ((400 : Int32) + (p2 &&& (15 : Int32))))]) t) => q56 t (by
              show Go p e below s₁ (mkF m 65 #[.val (.int p1), .val (.int p2), .val (.int (p1 &&& (3 : Int32))), .val (.int ((400 : Int32) + (p2 &&& (15 : Int32)))), .unset, .unset] [(.int (407 : Int32)), (.int ((400 : Int32) + (p2 &&& (15 : Int32))))]) _
              refine XS.icmpYes X0.here hx rfl (pc0 := 65) (pc' := 76) rfl (hb hby at_65) rfl (feq hc57).2 (by decide) (by decide) ?_
              show Go p e below s₁ (mkF m 76 #[.val (.int p1), .val (.int p2), .val (.int (p1 &&& (3 : Int32))), .val (.int ((400 : Int32) + (p2 &&& (15 : Int32)))), .unset, .unset] []) _
              refine XS.aconstNull X0.here hx rfl (hb hby at_76) ?_
              show Go p e below s₁ (mkF m 77 #[.val (.int p1), .val (.int p2), .val (.int (p1 &&& (3 : Int32))), .val (.int ((400 : Int32) + (p2 &&& (15 : Int32)))), .unset, .unset] [.null]) _
              refine XS.astore X0.here hx rfl (hb hby at_77) rfl rfl (l' := #[.val (.int p1), .val (.int p2), .val (.int (p1 &&& (3 : Int32))), .val (.int ((400 : Int32) + (p2 &&& (15 : Int32)))), .val .null, .unset]) rfl ?_
              show Go p e below s₁ (mkF m 79 #[.val (.int p1), .val (.int p2), .val (.int (p1 &&& (3 : Int32))), .val (.int ((400 : Int32) + (p2 &&& (15 : Int32)))), .val .null, .unset] []) _
              refine XS.iloadN X0.here hx rfl (hb hby at_79) rfl ?_
              exact kt)
            obtain ⟨_, _, ⟨T68, L68, k68, n68⟩, -, X68, ⟨Lc68, hQ68, l68, y68, z68⟩, st68⟩ := Jvm.LawKit.callS X0 hx (y := (⟨"com/example/vouchsafe/bearer/Role", "challengedWith", "(I)Lcom/example/vouchsafe/bearer/Role;"⟩ : MethodName)) hown (mvT hZ (own_w hw 3 rfl)) (mvT hZ (own_w hw 4 rfl)) (mvT hZ (own_w hw 1 rfl)) (mvT hZ (own_w hw 5 rfl)) (by decide) (backOf (W := 0) (rm1_2 l Z a0 hw [] cx ((400 : Int32) + (p2 &&& (15 : Int32))) h0 n0 O0 hc46 hc57) hZ (own_w hw 5 rfl) (own_w hw 1 rfl) (by decide) (by decide)) (g := (mkF m 80 #[.val (.int p1), .val (.int p2), .val (.int (p1 &&& (3 : Int32))), .val (.int ((400 : Int32) + (p2 &&& (15 : Int32)))), .val .null, .unset] [(.int ((400 : Int32) + (p2 &&& (15 : Int32))))])) rfl (by rw [hml]; rfl) (argsL := [(.int ((400 : Int32) + (p2 &&& (15 : Int32))))]) (rest := []) (lenOf pd_1 rfl) rfl (by show 2 * 0 + _ ≤ _; exact Nat.le_of_eq rfl) (hb hby at_80) (fun _ _ => ⟨rfl, e0, (by decide : 0 + 1 ≤ _), (by decide : 0 + 2 ≤ _)⟩)
            dsimp only [Pt.U, Pt.locs, Pt.cells, Pt.slots] at X68 l68 y68 z68 st68 hQ68
            subst l68 y68 z68
            obtain ⟨rfl, Nq68, Kq68⟩ := hQ68
            have N69 := Fr.app N0 Nq68
            have q70 := fun t (kt : Go p e below T68 (mkF m 83 #[.val (.int p1), .val (.int p2), .val (.int (p1 &&& (3 : Int32))), .val (.int ((400 : Int32) + (p2 &&& (15 : Int32)))), .val .null, .unset] [.null]) t) => q67 t (st68 t kt)
            have O71 : Old Z n0 T68.heap := O0.keep Kq68 all0
            have q72 := fun t (kt : Go p e below T68 (mkF m 97 #[.val (.int p1), .val (.int p2), .val (.int (p1 &&& (3 : Int32))), .val (.int ((400 : Int32) + (p2 &&& (15 : Int32)))), .val .null, .val .null] [(.int (1 : Int32))]) t) => q70 t (by
              show Go p e below T68 (mkF m 83 #[.val (.int p1), .val (.int p2), .val (.int (p1 &&& (3 : Int32))), .val (.int ((400 : Int32) + (p2 &&& (15 : Int32)))), .val .null, .unset] [.null]) _
              refine XS.astore X68.here hx rfl (hb hby at_83) rfl rfl (l' := #[.val (.int p1), .val (.int p2), .val (.int (p1 &&& (3 : Int32))), .val (.int ((400 : Int32) + (p2 &&& (15 : Int32)))), .val .null, .val .null]) rfl ?_
              show Go p e below T68 (mkF m 85 #[.val (.int p1), .val (.int p2), .val (.int (p1 &&& (3 : Int32))), .val (.int ((400 : Int32) + (p2 &&& (15 : Int32)))), .val .null, .val .null] []) _
              refine XS.aload X68.here hx rfl (hb hby at_85) rfl rfl ?_
              show Go p e below T68 (mkF m 87 #[.val (.int p1), .val (.int p2), .val (.int (p1 &&& (3 : Int32))), .val (.int ((400 : Int32) + (p2 &&& (15 : Int32)))), .val .null, .val .null] [.null]) _
              refine XS.aload X68.here hx rfl (hb hby at_87) rfl rfl ?_
              show Go p e below T68 (mkF m 89 #[.val (.int p1), .val (.int p2), .val (.int (p1 &&& (3 : Int32))), .val (.int ((400 : Int32) + (p2 &&& (15 : Int32)))), .val .null, .val .null] [.null, .null]) _
              refine Jvm.RoadKit.acmp (g := (mkF m 89 #[.val (.int p1), .val (.int p2), .val (.int (p1 &&& (3 : Int32))), .val (.int ((400 : Int32) + (p2 &&& (15 : Int32)))), .val .null, .val .null] [.null, .null])) X68 hx rfl rfl rfl (pc0 := 89) (pc' := 92) (same := true) rfl (hb hby at_89) rfl (decide_eq_true rfl) (by decide) (by decide) ?_
              show Go p e below T68 (mkF m 92 #[.val (.int p1), .val (.int p2), .val (.int (p1 &&& (3 : Int32))), .val (.int ((400 : Int32) + (p2 &&& (15 : Int32)))), .val .null, .val .null] []) _
              refine XS.iconst X68.here hx rfl (hb hby at_92) ?_
              show Go p e below T68 (mkF m 93 #[.val (.int p1), .val (.int p2), .val (.int (p1 &&& (3 : Int32))), .val (.int ((400 : Int32) + (p2 &&& (15 : Int32)))), .val .null, .val .null] [(.int (1 : Int32))]) _
              refine XS.goto X68.here hx rfl (pc0 := 93) (pc' := 97) rfl (hb hby at_93) (by decide) (by decide) ?_
              exact kt)
            exact ⟨some (.int (1 : Int32)), T68, _, _, _, _, X68, by decide, by decide, nofun, q72, fun fs hr => retN X68 hx (t := .boolean) hret (by simp) (hb hby at_97) hr, ⟨rfl, N69⟩⟩
      · have q73 := fun t (kt : Go p e below s₁ (mkF m 50 #[.val (.int p1), .val (.int p2), .val (.int (p1 &&& (3 : Int32))), .val (.int p2), .unset, .unset] [(.int (401 : Int32)), (.int p2)]) t) => q43 t (by
          show Go p e below s₁ (mkF m 29 #[.val (.int p1), .val (.int p2), .val (.int (p1 &&& (3 : Int32))), .unset, .unset, .unset] [(.int (2 : Int32)), (.int (p1 &&& (3 : Int32)))]) _
          refine XS.icmpYes X0.here hx rfl (pc0 := 29) (pc' := 44) rfl (hb hby at_29) rfl (feq hc44).2 (by decide) (by decide) ?_
          show Go p e below s₁ (mkF m 44 #[.val (.int p1), .val (.int p2), .val (.int (p1 &&& (3 : Int32))), .unset, .unset, .unset] []) _
          refine XS.iloadN X0.here hx rfl (hb hby at_44) rfl ?_
          show Go p e below s₁ (mkF m 45 #[.val (.int p1), .val (.int p2), .val (.int (p1 &&& (3 : Int32))), .unset, .unset, .unset] [(.int p2)]) _
          refine XS.istoreN X0.here hx rfl (hb hby at_45) rfl (l' := #[.val (.int p1), .val (.int p2), .val (.int (p1 &&& (3 : Int32))), .val (.int p2), .unset, .unset]) rfl ?_
          show Go p e below s₁ (mkF m 46 #[.val (.int p1), .val (.int p2), .val (.int (p1 &&& (3 : Int32))), .val (.int p2), .unset, .unset] []) _
          refine XS.iloadN X0.here hx rfl (hb hby at_46) rfl ?_
          show Go p e below s₁ (mkF m 47 #[.val (.int p1), .val (.int p2), .val (.int (p1 &&& (3 : Int32))), .val (.int p2), .unset, .unset] [(.int p2)]) _
          refine XS.sipush X0.here hx rfl (hb hby at_47) ?_
          exact kt)
        by_cases hc74 : p2 = (401 : Int32)
        · have q75 := fun t (kt : Go p e below s₁ (mkF m 53 #[.val (.int p1), .val (.int p2), .val (.int (p1 &&& (3 : Int32))), .val (.int p2), .unset, .unset] []) t) => q73 t (by
            show Go p e below s₁ (mkF m 50 #[.val (.int p1), .val (.int p2), .val (.int (p1 &&& (3 : Int32))), .val (.int p2), .unset, .unset] [(.int (401 : Int32)), (.int p2)]) _
            refine XS.icmpNo X0.here hx rfl (hb hby at_50) rfl (teq hc74).2 ?_
            exact kt)
          obtain ⟨T76, X76, e76, st76⟩ := getS2 X0 hx hZ hown (host := "") (Or.inl (own_w hw 0 rfl)) Via.refl e0 (cx.1.ext O0.2) (g := (mkF m 53 #[.val (.int p1), .val (.int p2), .val (.int (p1 &&& (3 : Int32))), .val (.int p2), .unset, .unset] [])) rfl (hb hby at_53)
          have q77 := fun t (kt : Go p e below T76 (mkF m 56 #[.val (.int p1), .val (.int p2), .val (.int (p1 &&& (3 : Int32))), .val (.int p2), .unset, .unset] [(.ref w_REGISTRAR)]) t) => q75 t (st76 t kt)
          have q78 := fun t (kt : Go p e below T76 (mkF m 80 #[.val (.int p1), .val (.int p2), .val (.int (p1 &&& (3 : Int32))), .val (.int p2), .val (.ref w_REGISTRAR), .unset] [(.int p2)]) t) => q77 t (by
            show Go p e below T76 (mkF m 56 #[.val (.int p1), .val (.int p2), .val (.int (p1 &&& (3 : Int32))), .val (.int p2), .unset, .unset] [(.ref w_REGISTRAR)]) _
            refine XS.astore X76.here hx rfl (hb hby at_56) rfl rfl (l' := #[.val (.int p1), .val (.int p2), .val (.int (p1 &&& (3 : Int32))), .val (.int p2), .val (.ref w_REGISTRAR), .unset]) rfl ?_
            show Go p e below T76 (mkF m 58 #[.val (.int p1), .val (.int p2), .val (.int (p1 &&& (3 : Int32))), .val (.int p2), .val (.ref w_REGISTRAR), .unset] []) _
            refine XS.goto X76.here hx rfl (pc0 := 58) (pc' := 79) rfl (hb hby at_58) (by decide) (by decide) ?_
            show Go p e below T76 (mkF m 79 #[.val (.int p1), .val (.int p2), .val (.int (p1 &&& (3 : Int32))), .val (.int p2), .val (.ref w_REGISTRAR), .unset] []) _
            refine XS.iloadN X76.here hx rfl (hb hby at_79) rfl ?_
            exact kt)
          obtain ⟨_, _, ⟨T79, L79, k79, n79⟩, -, X79, ⟨Lc79, hQ79, l79, y79, z79⟩, st79⟩ := Jvm.LawKit.callS X76 hx (y := (⟨"com/example/vouchsafe/bearer/Role", "challengedWith", "(I)Lcom/example/vouchsafe/bearer/Role;"⟩ : MethodName)) hown (mvT hZ (own_w hw 3 rfl)) (mvT hZ (own_w hw 4 rfl)) (mvT hZ (own_w hw 1 rfl)) (mvT hZ (own_w hw 5 rfl)) (by decide) (backOf (W := 0) (rm1_0 l Z a0 hw [] cx p2 h0 n0 O0 hc74) hZ (own_w hw 5 rfl) (own_w hw 1 rfl) (by decide) (by decide)) (g := (mkF m 80 #[.val (.int p1), .val (.int p2), .val (.int (p1 &&& (3 : Int32))), .val (.int p2), .val (.ref w_REGISTRAR), .unset] [(.int p2)])) rfl (by rw [hml]; rfl) (argsL := [(.int p2)]) (rest := []) (lenOf pd_1 rfl) rfl (by show 2 * 0 + _ ≤ _; exact Nat.le_of_eq rfl) (hb hby at_80) (fun _ _ => ⟨rfl, e76, (by decide : 0 + 1 ≤ _), (by decide : 0 + 2 ≤ _)⟩)
          dsimp only [Pt.U, Pt.locs, Pt.cells, Pt.slots] at X79 l79 y79 z79 st79 hQ79
          subst l79 y79 z79
          obtain ⟨rfl, Nq79, Kq79⟩ := hQ79
          have N80 := Fr.app N0 Nq79
          have q81 := fun t (kt : Go p e below T79 (mkF m 83 #[.val (.int p1), .val (.int p2), .val (.int (p1 &&& (3 : Int32))), .val (.int p2), .val (.ref w_REGISTRAR), .unset] [(.ref w_REGISTRAR)]) t) => q78 t (st79 t kt)
          have O82 : Old Z n0 T79.heap := O0.keep Kq79 all0
          have q83 := fun t (kt : Go p e below T79 (mkF m 97 #[.val (.int p1), .val (.int p2), .val (.int (p1 &&& (3 : Int32))), .val (.int p2), .val (.ref w_REGISTRAR), .val (.ref w_REGISTRAR)] [(.int (1 : Int32))]) t) => q81 t (by
            show Go p e below T79 (mkF m 83 #[.val (.int p1), .val (.int p2), .val (.int (p1 &&& (3 : Int32))), .val (.int p2), .val (.ref w_REGISTRAR), .unset] [(.ref w_REGISTRAR)]) _
            refine XS.astore X79.here hx rfl (hb hby at_83) rfl rfl (l' := #[.val (.int p1), .val (.int p2), .val (.int (p1 &&& (3 : Int32))), .val (.int p2), .val (.ref w_REGISTRAR), .val (.ref w_REGISTRAR)]) rfl ?_
            show Go p e below T79 (mkF m 85 #[.val (.int p1), .val (.int p2), .val (.int (p1 &&& (3 : Int32))), .val (.int p2), .val (.ref w_REGISTRAR), .val (.ref w_REGISTRAR)] []) _
            refine XS.aload X79.here hx rfl (hb hby at_85) rfl rfl ?_
            show Go p e below T79 (mkF m 87 #[.val (.int p1), .val (.int p2), .val (.int (p1 &&& (3 : Int32))), .val (.int p2), .val (.ref w_REGISTRAR), .val (.ref w_REGISTRAR)] [(.ref w_REGISTRAR)]) _
            refine XS.aload X79.here hx rfl (hb hby at_87) rfl rfl ?_
            show Go p e below T79 (mkF m 89 #[.val (.int p1), .val (.int p2), .val (.int (p1 &&& (3 : Int32))), .val (.int p2), .val (.ref w_REGISTRAR), .val (.ref w_REGISTRAR)] [(.ref w_REGISTRAR), (.ref w_REGISTRAR)]) _
            refine Jvm.RoadKit.acmp (g := (mkF m 89 #[.val (.int p1), .val (.int p2), .val (.int (p1 &&& (3 : Int32))), .val (.int p2), .val (.ref w_REGISTRAR), .val (.ref w_REGISTRAR)] [(.ref w_REGISTRAR), (.ref w_REGISTRAR)])) X79 hx rfl rfl rfl (pc0 := 89) (pc' := 92) (same := true) rfl (hb hby at_89) rfl (decide_eq_true rfl) (by decide) (by decide) ?_
            show Go p e below T79 (mkF m 92 #[.val (.int p1), .val (.int p2), .val (.int (p1 &&& (3 : Int32))), .val (.int p2), .val (.ref w_REGISTRAR), .val (.ref w_REGISTRAR)] []) _
            refine XS.iconst X79.here hx rfl (hb hby at_92) ?_
            show Go p e below T79 (mkF m 93 #[.val (.int p1), .val (.int p2), .val (.int (p1 &&& (3 : Int32))), .val (.int p2), .val (.ref w_REGISTRAR), .val (.ref w_REGISTRAR)] [(.int (1 : Int32))]) _
            refine XS.goto X79.here hx rfl (pc0 := 93) (pc' := 97) rfl (hb hby at_93) (by decide) (by decide) ?_
            exact kt)
          exact ⟨some (.int (1 : Int32)), T79, _, _, _, _, X79, by decide, by decide, nofun, q83, fun fs hr => retN X79 hx (t := .boolean) hret (by simp) (hb hby at_97) hr, ⟨rfl, N80⟩⟩
        · have q84 := fun t (kt : Go p e below s₁ (mkF m 65 #[.val (.int p1), .val (.int p2), .val (.int (p1 &&& (3 : Int32))), .val (.int p2), .unset, .unset] [(.int (407 : Int32)), (.int p2)]) t) => q73 t (by
            show Go p e below s₁ (mkF m 50 #[.val (.int p1), .val (.int p2), .val (.int (p1 &&& (3 : Int32))), .val (.int p2), .unset, .unset] [(.int (401 : Int32)), (.int p2)]) _
            refine XS.icmpYes X0.here hx rfl (pc0 := 50) (pc' := 61) rfl (hb hby at_50) rfl (feq hc74).2 (by decide) (by decide) ?_
            show Go p e below s₁ (mkF m 61 #[.val (.int p1), .val (.int p2), .val (.int (p1 &&& (3 : Int32))), .val (.int p2), .unset, .unset] []) _
            refine XS.iloadN X0.here hx rfl (hb hby at_61) rfl ?_
            show Go p e below s₁ (mkF m 62 #[.val (.int p1), .val (.int p2), .val (.int (p1 &&& (3 : Int32))), .val (.int p2), .unset, .unset] [(.int p2)]) _
            refine XS.sipush X0.here hx rfl (hb hby at_62) ?_
            exact kt)
          by_cases hc85 : p2 = (407 : Int32)
          · have q86 := fun t (kt : Go p e below s₁ (mkF m 68 #[.val (.int p1), .val (.int p2), .val (.int (p1 &&& (3 : Int32))), .val (.int p2), .unset, .unset] []) t) => q84 t (by
              show Go p e below s₁ (mkF m 65 #[.val (.int p1), .val (.int p2), .val (.int (p1 &&& (3 : Int32))), .val (.int p2), .unset, .unset] [(.int (407 : Int32)), (.int p2)]) _
              refine XS.icmpNo X0.here hx rfl (hb hby at_65) rfl (teq hc85).2 ?_
              exact kt)
            obtain ⟨T87, X87, e87, st87⟩ := getS2 X0 hx hZ hown (host := "") (Or.inl (own_w hw 24 rfl)) Via.refl e0 (cx.2.2.2.2.1.ext O0.2) (g := (mkF m 68 #[.val (.int p1), .val (.int p2), .val (.int (p1 &&& (3 : Int32))), .val (.int p2), .unset, .unset] [])) rfl (hb hby at_68)
            have q88 := fun t (kt : Go p e below T87 (mkF m 71 #[.val (.int p1), .val (.int p2), .val (.int (p1 &&& (3 : Int32))), .val (.int p2), .unset, .unset] [(.ref w_PROXY)]) t) => q86 t (st87 t kt)
            have q89 := fun t (kt : Go p e below T87 (mkF m 80 #[.val (.int p1), .val (.int p2), .val (.int (p1 &&& (3 : Int32))), .val (.int p2), .val (.ref w_PROXY), .unset] [(.int p2)]) t) => q88 t (by
              show Go p e below T87 (mkF m 71 #[.val (.int p1), .val (.int p2), .val (.int (p1 &&& (3 : Int32))), .val (.int p2), .unset, .unset] [(.ref w_PROXY)]) _
              refine XS.astore X87.here hx rfl (hb hby at_71) rfl rfl (l' := #[.val (.int p1), .val (.int p2), .val (.int (p1 &&& (3 : Int32))), .val (.int p2), .val (.ref w_PROXY), .unset]) rfl ?_
              show Go p e below T87 (mkF m 73 #[.val (.int p1), .val (.int p2), .val (.int (p1 &&& (3 : Int32))), .val (.int p2), .val (.ref w_PROXY), .unset] []) _
              refine XS.goto X87.here hx rfl (pc0 := 73) (pc' := 79) rfl (hb hby at_73) (by decide) (by decide) ?_
              show Go p e below T87 (mkF m 79 #[.val (.int p1), .val (.int p2), .val (.int (p1 &&& (3 : Int32))), .val (.int p2), .val (.ref w_PROXY), .unset] []) _
              refine XS.iloadN X87.here hx rfl (hb hby at_79) rfl ?_
              exact kt)
            obtain ⟨_, _, ⟨T90, L90, k90, n90⟩, -, X90, ⟨Lc90, hQ90, l90, y90, z90⟩, st90⟩ := Jvm.LawKit.callS X87 hx (y := (⟨"com/example/vouchsafe/bearer/Role", "challengedWith", "(I)Lcom/example/vouchsafe/bearer/Role;"⟩ : MethodName)) hown (mvT hZ (own_w hw 3 rfl)) (mvT hZ (own_w hw 4 rfl)) (mvT hZ (own_w hw 1 rfl)) (mvT hZ (own_w hw 5 rfl)) (by decide) (backOf (W := 0) (rm1_1 l Z a0 hw [] cx p2 h0 n0 O0 hc74 hc85) hZ (own_w hw 5 rfl) (own_w hw 1 rfl) (by decide) (by decide)) (g := (mkF m 80 #[.val (.int p1), .val (.int p2), .val (.int (p1 &&& (3 : Int32))), .val (.int p2), .val (.ref w_PROXY), .unset] [(.int p2)])) rfl (by rw [hml]; rfl) (argsL := [(.int p2)]) (rest := []) (lenOf pd_1 rfl) rfl (by show 2 * 0 + _ ≤ _; exact Nat.le_of_eq rfl) (hb hby at_80) (fun _ _ => ⟨rfl, e87, (by decide : 0 + 1 ≤ _), (by decide : 0 + 2 ≤ _)⟩)
            dsimp only [Pt.U, Pt.locs, Pt.cells, Pt.slots] at X90 l90 y90 z90 st90 hQ90
            subst l90 y90 z90
            obtain ⟨rfl, Nq90, Kq90⟩ := hQ90
            have N91 := Fr.app N0 Nq90
            have q92 := fun t (kt : Go p e below T90 (mkF m 83 #[.val (.int p1), .val (.int p2), .val (.int (p1 &&& (3 : Int32))), .val (.int p2), .val (.ref w_PROXY), .unset] [(.ref w_PROXY)]) t) => q89 t (st90 t kt)
            have O93 : Old Z n0 T90.heap := O0.keep Kq90 all0
            have q94 := fun t (kt : Go p e below T90 (mkF m 97 #[.val (.int p1), .val (.int p2), .val (.int (p1 &&& (3 : Int32))), .val (.int p2), .val (.ref w_PROXY), .val (.ref w_PROXY)] [(.int (1 : Int32))]) t) => q92 t (by
              show Go p e below T90 (mkF m 83 #[.val (.int p1), .val (.int p2), .val (.int (p1 &&& (3 : Int32))), .val (.int p2), .val (.ref w_PROXY), .unset] [(.ref w_PROXY)]) _
              refine XS.astore X90.here hx rfl (hb hby at_83) rfl rfl (l' := #[.val (.int p1), .val (.int p2), .val (.int (p1 &&& (3 : Int32))), .val (.int p2), .val (.ref w_PROXY), .val (.ref w_PROXY)]) rfl ?_
              show Go p e below T90 (mkF m 85 #[.val (.int p1), .val (.int p2), .val (.int (p1 &&& (3 : Int32))), .val (.int p2), .val (.ref w_PROXY), .val (.ref w_PROXY)] []) _
              refine XS.aload X90.here hx rfl (hb hby at_85) rfl rfl ?_
              show Go p e below T90 (mkF m 87 #[.val (.int p1), .val (.int p2), .val (.int (p1 &&& (3 : Int32))), .val (.int p2), .val (.ref w_PROXY), .val (.ref w_PROXY)] [(.ref w_PROXY)]) _
              refine XS.aload X90.here hx rfl (hb hby at_87) rfl rfl ?_
              show Go p e below T90 (mkF m 89 #[.val (.int p1), .val (.int p2), .val (.int (p1 &&& (3 : Int32))), .val (.int p2), .val (.ref w_PROXY), .val (.ref w_PROXY)] [(.ref w_PROXY), (.ref w_PROXY)]) _
              refine Jvm.RoadKit.acmp (g := (mkF m 89 #[.val (.int p1), .val (.int p2), .val (.int (p1 &&& (3 : Int32))), .val (.int p2), .val (.ref w_PROXY), .val (.ref w_PROXY)] [(.ref w_PROXY), (.ref w_PROXY)])) X90 hx rfl rfl rfl (pc0 := 89) (pc' := 92) (same := true) rfl (hb hby at_89) rfl (decide_eq_true rfl) (by decide) (by decide) ?_
              show Go p e below T90 (mkF m 92 #[.val (.int p1), .val (.int p2), .val (.int (p1 &&& (3 : Int32))), .val (.int p2), .val (.ref w_PROXY), .val (.ref w_PROXY)] []) _
              refine XS.iconst X90.here hx rfl (hb hby at_92) ?_
              show Go p e below T90 (mkF m 93 #[.val (.int p1), .val (.int p2), .val (.int (p1 &&& (3 : Int32))), .val (.int p2), .val (.ref w_PROXY), .val (.ref w_PROXY)] [(.int (1 : Int32))]) _
              refine XS.goto X90.here hx rfl (pc0 := 93) (pc' := 97) rfl (hb hby at_93) (by decide) (by decide) ?_
              exact kt)
            exact ⟨some (.int (1 : Int32)), T90, _, _, _, _, X90, by decide, by decide, nofun, q94, fun fs hr => retN X90 hx (t := .boolean) hret (by simp) (hb hby at_97) hr, ⟨rfl, N91⟩⟩
          · have q95 := fun t (kt : Go p e below s₁ (mkF m 80 #[.val (.int p1), .val (.int p2), .val (.int (p1 &&& (3 : Int32))), .val (.int p2), .val .null, .unset] [(.int p2)]) t) => q84 t (by
              show Go p e below s₁ (mkF m 65 #[.val (.int p1), .val (.int p2), .val (.int (p1 &&& (3 : Int32))), .val (.int p2), .unset, .unset] [(.int (407 : Int32)), (.int p2)]) _
              refine XS.icmpYes X0.here hx rfl (pc0 := 65) (pc' := 76) rfl (hb hby at_65) rfl (feq hc85).2 (by decide) (by decide) ?_
              show Go p e below s₁ (mkF m 76 #[.val (.int p1), .val (.int p2), .val (.int (p1 &&& (3 : Int32))), .val (.int p2), .unset, .unset] []) _
              refine XS.aconstNull X0.here hx rfl (hb hby at_76) ?_
              show Go p e below s₁ (mkF m 77 #[.val (.int p1), .val (.int p2), .val (.int (p1 &&& (3 : Int32))), .val (.int p2), .unset, .unset] [.null]) _
              refine XS.astore X0.here hx rfl (hb hby at_77) rfl rfl (l' := #[.val (.int p1), .val (.int p2), .val (.int (p1 &&& (3 : Int32))), .val (.int p2), .val .null, .unset]) rfl ?_
              show Go p e below s₁ (mkF m 79 #[.val (.int p1), .val (.int p2), .val (.int (p1 &&& (3 : Int32))), .val (.int p2), .val .null, .unset] []) _
              refine XS.iloadN X0.here hx rfl (hb hby at_79) rfl ?_
              exact kt)
            obtain ⟨_, _, ⟨T96, L96, k96, n96⟩, -, X96, ⟨Lc96, hQ96, l96, y96, z96⟩, st96⟩ := Jvm.LawKit.callS X0 hx (y := (⟨"com/example/vouchsafe/bearer/Role", "challengedWith", "(I)Lcom/example/vouchsafe/bearer/Role;"⟩ : MethodName)) hown (mvT hZ (own_w hw 3 rfl)) (mvT hZ (own_w hw 4 rfl)) (mvT hZ (own_w hw 1 rfl)) (mvT hZ (own_w hw 5 rfl)) (by decide) (backOf (W := 0) (rm1_2 l Z a0 hw [] cx p2 h0 n0 O0 hc74 hc85) hZ (own_w hw 5 rfl) (own_w hw 1 rfl) (by decide) (by decide)) (g := (mkF m 80 #[.val (.int p1), .val (.int p2), .val (.int (p1 &&& (3 : Int32))), .val (.int p2), .val .null, .unset] [(.int p2)])) rfl (by rw [hml]; rfl) (argsL := [(.int p2)]) (rest := []) (lenOf pd_1 rfl) rfl (by show 2 * 0 + _ ≤ _; exact Nat.le_of_eq rfl) (hb hby at_80) (fun _ _ => ⟨rfl, e0, (by decide : 0 + 1 ≤ _), (by decide : 0 + 2 ≤ _)⟩)
            dsimp only [Pt.U, Pt.locs, Pt.cells, Pt.slots] at X96 l96 y96 z96 st96 hQ96
            subst l96 y96 z96
            obtain ⟨rfl, Nq96, Kq96⟩ := hQ96
            have N97 := Fr.app N0 Nq96
            have q98 := fun t (kt : Go p e below T96 (mkF m 83 #[.val (.int p1), .val (.int p2), .val (.int (p1 &&& (3 : Int32))), .val (.int p2), .val .null, .unset] [.null]) t) => q95 t (st96 t kt)
            have O99 : Old Z n0 T96.heap := O0.keep Kq96 all0
            have q100 := fun t (kt : Go p e below T96 (mkF m 97 #[.val (.int p1), .val (.int p2), .val (.int (p1 &&& (3 : Int32))), .val (.int p2), .val .null, .val .null] [(.int (1 : Int32))]) t) => q98 t (by
              show Go p e below T96 (mkF m 83 #[.val (.int p1), .val (.int p2), .val (.int (p1 &&& (3 : Int32))), .val (.int p2), .val .null, .unset] [.null]) _
              refine XS.astore X96.here hx rfl (hb hby at_83) rfl rfl (l' := #[.val (.int p1), .val (.int p2), .val (.int (p1 &&& (3 : Int32))), .val (.int p2), .val .null, .val .null]) rfl ?_
              show Go p e below T96 (mkF m 85 #[.val (.int p1), .val (.int p2), .val (.int (p1 &&& (3 : Int32))), .val (.int p2), .val .null, .val .null] []) _
              refine XS.aload X96.here hx rfl (hb hby at_85) rfl rfl ?_
              show Go p e below T96 (mkF m 87 #[.val (.int p1), .val (.int p2), .val (.int (p1 &&& (3 : Int32))), .val (.int p2), .val .null, .val .null] [.null]) _
              refine XS.aload X96.here hx rfl (hb hby at_87) rfl rfl ?_
              show Go p e below T96 (mkF m 89 #[.val (.int p1), .val (.int p2), .val (.int (p1 &&& (3 : Int32))), .val (.int p2), .val .null, .val .null] [.null, .null]) _
              refine Jvm.RoadKit.acmp (g := (mkF m 89 #[.val (.int p1), .val (.int p2), .val (.int (p1 &&& (3 : Int32))), .val (.int p2), .val .null, .val .null] [.null, .null])) X96 hx rfl rfl rfl (pc0 := 89) (pc' := 92) (same := true) rfl (hb hby at_89) rfl (decide_eq_true rfl) (by decide) (by decide) ?_
              show Go p e below T96 (mkF m 92 #[.val (.int p1), .val (.int p2), .val (.int (p1 &&& (3 : Int32))), .val (.int p2), .val .null, .val .null] []) _
              refine XS.iconst X96.here hx rfl (hb hby at_92) ?_
              show Go p e below T96 (mkF m 93 #[.val (.int p1), .val (.int p2), .val (.int (p1 &&& (3 : Int32))), .val (.int p2), .val .null, .val .null] [(.int (1 : Int32))]) _
              refine XS.goto X96.here hx rfl (pc0 := 93) (pc' := 97) rfl (hb hby at_93) (by decide) (by decide) ?_
              exact kt)
            exact ⟨some (.int (1 : Int32)), T96, _, _, _, _, X96, by decide, by decide, nofun, q100, fun fs hr => retN X96 hx (t := .boolean) hret (by simp) (hb hby at_97) hr, ⟨rfl, N97⟩⟩
theorem comes_1 {Post : Tables → Env → Array Value → State → Outcome → State → Prop} (hpost : ∀ tb e args s v u, (limb_1_1.after args s (.returned v) u = true ∧ limb_1_2.after args s (.returned v) u = true ∧ True) → FrameEnd s (.returned v) u (Jvm.fieldLocs frame_1_writes args s ++ Jvm.arrayLocs frame_1_arrays args s ++ Jvm.staticLocs frame_1_statics s) 16 128 → Post tb e args s (.returned v) u) :
    ArmFor flags0 classFile x code maxLocals ret World_1 tables_1 room_1 Calls_1 rest_1 Pre_1 Post := by
  intro l hfl _ _ p e ha hc hk s m args below hf hA hF happ hP
  obtain ⟨hcalls, hrest, hpre⟩ := hP
  obtain ⟨-, -, -, hnamed, -, -, -, hat⟩ := (Spec.applies_iff hf).mp happ
  obtain ⟨hg, hn⟩ := and_e (Cond.before_iff.mp (show (Jvm.Cond.and given_1 narrow_1).before args s = true from hpre))
  obtain ⟨gg1, gg2⟩ := and_e hg
  obtain ⟨gg3, gg4⟩ := and_e gg2
  obtain ⟨w0, w1, rfl⟩ : ∃ w0 w1 : Value, args = #[w0, w1] := by
    have hs : args.size = 2 := by simpa [Cond.value, given_1] using gg1
    obtain ⟨L⟩ := args
    match L, hs with
    | [w0, w1], _ => exact ⟨w0, w1, rfl⟩
  have hw := fun d (hd : d ∈ tables_1) => atoms_spec (ws := Jvm.Cond.code x code maxLocals ret :: tables_1) hat d (List.mem_cons_of_mem _ hd)
  have hfit : Fit s := fun {y c} hc i hi => by
    obtain ⟨ha, rfl⟩ := Array.getElem?_eq_some_iff.mp hc
    have q := List.all_eq_true.mp ((Array.all_eq_true_iff_forall_mem.mp hF) _ (Array.getElem_mem ha)) i (List.mem_range.mpr hi)
    simpa [Array.getElem?_eq_getElem hi] using q
  obtain ⟨i0, ei0⟩ := is_v gg3
  obtain rfl : w0 = (.int i0) := Option.some.inj ei0
  obtain ⟨i1, ei1⟩ := is_v gg4
  obtain rfl : w1 = (.int i1) := Option.some.inj ei1
  obtain ⟨nn1, nn2⟩ := and_e hn
  obtain ⟨nn3, nn4⟩ := and_e nn2
  obtain ⟨nn5, nn6⟩ := and_e nn4
  obtain ⟨nn7, nn8⟩ := and_e nn6
  obtain ⟨nn9, nn10⟩ := and_e nn8
  obtain ⟨nn11, nn12⟩ := and_e nn10
  obtain ⟨nn13, nn14⟩ := and_e nn12
  obtain ⟨nn15, nn16⟩ := and_e nn14
  obtain ⟨w_REGISTRAR, ev_w_REGISTRAR⟩ := exa_v nn1
  obtain ⟨w_VAL, ev_w_VAL⟩ := arr_v nn3
  obtain ⟨cl_w_VAL, Ar_w_VAL⟩ := Arr.start ev_w_VAL nn3
  obtain ⟨w_PROXY, ev_w_PROXY⟩ := exa_v nn11
  have ln_w_VAL := own_lenI ev_w_VAL Ar_w_VAL nn7
  have V_w_VAL : Arv s s.heap w_VAL cl_w_VAL.cls (.object "com/example/vouchsafe/bearer/Role") (2 : Int32) [(.ref w_REGISTRAR), (.ref w_PROXY)] .null := Arv.start hfit Ar_w_VAL ln_w_VAL.1 ln_w_VAL.2 (by decide) rfl ⟨own_elI ev_w_VAL Ar_w_VAL ev_w_REGISTRAR (Or.inl rfl) nn9, own_elI ev_w_VAL Ar_w_VAL ev_w_PROXY (Or.inl rfl) nn13, trivial⟩
  generalize hkc_w_VAL : cl_w_VAL.cls = kc_w_VAL at V_w_VAL
  have sz_VAL : cl_w_VAL.slots.size = 2 := by
    have h1 := ln_w_VAL.1
    have h2 := congrArg Int32.toInt ln_w_VAL.2
    rw [len_toInt h1] at h2
    have h3 : (2 : Int32).toInt = 2 := by decide
    omega
  have cx : Cx s w_REGISTRAR w_VAL w_PROXY kc_w_VAL := ⟨(Sta.start ev_w_REGISTRAR (Or.inr ⟨(own_w hw 1 rfl), (own_w hw 2 rfl)⟩)), (Exa.start ev_w_REGISTRAR nn1), (Sta.start ev_w_VAL (Or.inl (own_w hw 19 rfl))), (Exa.start ev_w_VAL nn5), (Sta.start ev_w_PROXY (Or.inr ⟨(own_w hw 1 rfl), (own_w hw 18 rfl)⟩)), (Exa.start ev_w_PROXY nn11), (own_fldI ev_w_REGISTRAR nn15), (own_fldI ev_w_PROXY nn16), V_w_VAL, ⟨cl_w_VAL, Ar_w_VAL, FitC.start hfit Ar_w_VAL, sz_VAL, own_elI ev_w_VAL Ar_w_VAL ev_w_REGISTRAR (Or.inl rfl) nn9, own_elI ev_w_VAL Ar_w_VAL ev_w_PROXY (Or.inl rfl) nn13⟩⟩
  obtain ⟨n, o, h1, h2, h3, _, L, rfl, ⟨rfl, N⟩, hq⟩ := rm0 l s _ hw tables_1 cx i0 i1 s.heap s.heap.size (Old.start s)  p e ha hc hk s m _ below hf ((Spec.applies_iff_loose hf).mp happ).1 ⟨rfl, State.Warmed39.refl s, rfl⟩ trivial
  refine ⟨n, _, h1, h2, h3, hpost _ _ _ _ _ _ ⟨Cond.after_iff.mpr rfl, Cond.after_iff.mpr (eq_i res_at (Term.int_eval (1)) rfl), trivial⟩ ⟨hq.1, hq.2.1, (hq.2.2.sift fun y hy => Or.inr (N y hy)).mono (by decide) (by decide)⟩⟩
theorem main_1_1 : Claimed_1_1 := comes_1 fun _ _ _ _ _ _ h hF => ⟨h.1, hF⟩
theorem main_1_2 : Claimed_1_2 := comes_1 fun _ _ _ _ _ _ h hF => ⟨h.2.1, hF⟩
end Jvm.Pilot.@@N@@
namespace Jvm.Pilot.@@N@@
open Jvm Jvm.ClassFile Sem Op Lib Jvm.Free Jvm.Stand Jvm.Pilot.@@N@@.Jvm.D
/-! MADE BY PROGRAM (witnessworld.py) out of the Statement's table words and the real class files: 13 classes; the members and pool entries that the words name. The judged class is class 1, her method 1. -/
namespace start1
open Jvm.ClassFile
def u (s : String) : CpInfo := .utf8 (stringToUtf16 s)
/-- a pool by its gaps: so many unusable entries, then the entry; so many at the end -/
def gap : Nat → List CpInfo → List CpInfo
  | 0, r => r
  | n + 1, r => .unusable :: gap n r
def poolList (es : List (Nat × CpInfo)) (last : Nat) : List CpInfo := es.foldr (fun e r => gap e.1 (e.2 :: r)) (gap last [])
def pool (es : List (Nat × CpInfo)) (last : Nat) : Array CpInfo := ⟨poolList es last⟩
def fileOf (pool : Array CpInfo) (this : Nat) (attrs : Array Attribute := #[]) (ms : Array MethodInfo := #[]) (fl : Nat := 33) (sup : Nat := 0) (ifs : Array Nat := #[]) (fds : Array FieldInfo := #[]) : ClassFile where
  minorVersion := 0
  majorVersion := 65
  constantPool := pool
  accessFlags := fl
  thisClass := this
  superClass := sup
  interfaces := ifs
  fields := fds
  methods := ms
  attributes := attrs
def plain (name : String) (sup : Option ClassId) : Class where
  name := name
  kind := .ordinary
  loader := none
  accessFlags := 33
  super := sup
  interfaces := #[]
  cf := none
  fields := #[]
  methods := #[]
  instanceTypes := #[]
  staticTypes := #[]
  resolved := #[]
  callSites := []
  init := .initialized
  statics := none
  mirror := none

def pool0 : Array CpInfo := pool [(5, u "<init>"), (0, u "()V"), (1, .class_ 10), (1, u "java/lang/Object"), (85, u "clone"), (0, u "()Ljava/lang/Object;")] 26

def k0m0 : Method := { name := "<init>", desc := "()V", sig := { parameters := [], returnType := none }, accessFlags := 1, code := none }
def k0m1 : Method := { name := "clone", desc := "()Ljava/lang/Object;", sig := { parameters := [], returnType := some (.object "java/lang/Object") }, accessFlags := 260, code := none }
/-- java/lang/Object -/
def k0 : Class := { plain "java/lang/Object" none with
  accessFlags := 33
  interfaces := #[]
  cf := some (fileOf pool0 8 #[] #[{ accessFlags := 1, nameIndex := 5, descriptorIndex := 6, attributes := #[] }, { accessFlags := 260, nameIndex := 96, descriptorIndex := 97, attributes := #[] }] 33 0 #[] #[])
  fields := #[]
  methods := #[k0m0, k0m1]
  instanceTypes := #[]
  staticTypes := #[]
  resolved := Array.replicate 124 none
  statics := none }

def pool1 : Array CpInfo := pool [(2, .class_ 4), (1, u "java/lang/Object"), (0, u "<init>"), (0, u "()V"), (0, .fieldref 8 9), (0, .class_ 10), (0, .nameAndType 11 12), (0, u "com/example/vouchsafe/bearer/Role"), (0, u "REGISTRAR"), (0, u "Lcom/example/vouchsafe/bearer/Role;"), (0, .fieldref 8 14), (0, .nameAndType 15 12), (0, u "PROXY"), (0, .methodref 8 17), (0, .nameAndType 18 19), (0, u "challengedWith"), (0, u "(I)Lcom/example/vouchsafe/bearer/Role;"), (0, .class_ 21), (0, u "com/example/vouchsafe/bearer/RoleChallengedWithPinLaw"), (2, u "law"), (0, u "(II)Z")] 3

def k1m0 : Method := { name := "<init>", desc := "()V", sig := { parameters := [], returnType := none }, accessFlags := 2, code := none }
def k1c1 : Code := { maxStack := 3, maxLocals := 6, code := code, exceptionTable := #[], attributes := #[] }
def k1m1 : Method := { name := "law", desc := "(II)Z", sig := { parameters := [.int, .int], returnType := some .boolean }, accessFlags := 9, code := some k1c1 }
/-- com/example/vouchsafe/bearer/RoleChallengedWithPinLaw -/
def k1 : Class := { plain "com/example/vouchsafe/bearer/RoleChallengedWithPinLaw" (some 0) with
  accessFlags := 49
  interfaces := #[]
  cf := some (fileOf pool1 20 #[] #[{ accessFlags := 2, nameIndex := 5, descriptorIndex := 6, attributes := #[] }, { accessFlags := 9, nameIndex := 24, descriptorIndex := 25, attributes := #[] }] 49 2 #[] #[])
  fields := #[]
  methods := #[k1m0, k1m1]
  instanceTypes := #[]
  staticTypes := #[]
  resolved := Array.replicate 29 none
  statics := none }

def pool2 : Array CpInfo := pool [(1, .class_ 2), (0, u "java/lang/constant/Constable"), (0, .class_ 4), (0, u "java/lang/Object")] 6

/-- java/lang/constant/Constable -/
def k2 : Class := { plain "java/lang/constant/Constable" (some 0) with
  accessFlags := 1537
  interfaces := #[]
  cf := some (fileOf pool2 1 #[] #[] 1537 3 #[] #[])
  fields := #[]
  methods := #[]
  instanceTypes := #[]
  staticTypes := #[]
  resolved := Array.replicate 11 none
  statics := none }

def pool3 : Array CpInfo := pool [(1, .class_ 2), (0, u "java/lang/Comparable"), (0, .class_ 4), (0, u "java/lang/Object")] 7

/-- java/lang/Comparable -/
def k3 : Class := { plain "java/lang/Comparable" (some 0) with
  accessFlags := 1537
  interfaces := #[]
  cf := some (fileOf pool3 1 #[] #[] 1537 3 #[] #[])
  fields := #[]
  methods := #[]
  instanceTypes := #[]
  staticTypes := #[]
  resolved := Array.replicate 12 none
  statics := none }

def pool4 : Array CpInfo := pool [(1, .class_ 2), (0, u "java/io/Serializable"), (0, .class_ 4), (0, u "java/lang/Object")] 2

/-- java/io/Serializable -/
def k4 : Class := { plain "java/io/Serializable" (some 0) with
  accessFlags := 1537
  interfaces := #[]
  cf := some (fileOf pool4 1 #[] #[] 1537 3 #[] #[])
  fields := #[]
  methods := #[]
  instanceTypes := #[]
  staticTypes := #[]
  resolved := Array.replicate 7 none
  statics := none }

def pool5 : Array CpInfo := pool [(2, .class_ 4), (1, u "java/lang/Enum"), (0, u "name"), (0, u "Ljava/lang/String;"), (2, u "ordinal"), (0, u "I"), (1, .class_ 14), (1, u "java/lang/Object"), (4, u "hash"), (86, .class_ 108), (1, u "java/lang/Enum$EnumDesc"), (2, .class_ 112), (0, u "java/lang/constant/Constable"), (0, .class_ 114), (0, u "java/lang/Comparable"), (0, .class_ 116), (0, u "java/io/Serializable")] 87

/-- java/lang/Enum -/
def k5 : Class := { plain "java/lang/Enum" (some 0) with
  accessFlags := 1057
  interfaces := #[2, 3, 4]
  cf := some (fileOf pool5 2 #[.nestMembers #[106]] #[] 1057 12 #[111, 113, 115] #[{ accessFlags := 18, nameIndex := 5, descriptorIndex := 6, attributes := #[] }, { accessFlags := 18, nameIndex := 9, descriptorIndex := 10, attributes := #[] }, { accessFlags := 2, nameIndex := 19, descriptorIndex := 10, attributes := #[] }])
  fields := #[{ name := "name", type := (.object "java/lang/String"), accessFlags := 18, slot := 0, constantValue := 0 }, { name := "ordinal", type := .int, accessFlags := 18, slot := 1, constantValue := 0 }, { name := "hash", type := .int, accessFlags := 2, slot := 2, constantValue := 0 }]
  methods := #[]
  instanceTypes := #[(.object "java/lang/String"), .int, .int]
  staticTypes := #[]
  resolved := Array.replicate 204 none
  statics := none }

def pool6 : Array CpInfo := pool [(1, .class_ 2), (0, u "com/example/vouchsafe/bearer/Role"), (2, u "REGISTRAR"), (0, u "Lcom/example/vouchsafe/bearer/Role;"), (2, u "PROXY"), (0, .fieldref 1 11), (0, .nameAndType 12 13), (0, u "$VALUES"), (0, u "[Lcom/example/vouchsafe/bearer/Role;"), (0, .methodref 15 16), (0, .class_ 13), (0, .nameAndType 17 18), (0, u "clone"), (0, u "()Ljava/lang/Object;"), (1, .class_ 22), (1, u "java/lang/Enum"), (6, .fieldref 1 30), (0, .nameAndType 31 32), (0, u "status"), (0, u "I"), (2, u "challengeField"), (0, u "Ljava/lang/String;"), (2, u "credentialsField"), (0, .methodref 1 41), (0, .nameAndType 42 43), (0, u "values"), (0, u "()[Lcom/example/vouchsafe/bearer/Role;"), (22, u "challengedWith"), (0, u "(I)Lcom/example/vouchsafe/bearer/Role;")] 8

def k6c0 : Code := { maxStack := 1, maxLocals := 0, code := prog_7_method_1_code, exceptionTable := #[], attributes := #[] }
def k6m0 : Method := { name := "values", desc := "()[Lcom/example/vouchsafe/bearer/Role;", sig := { parameters := [], returnType := some (.array (.object "com/example/vouchsafe/bearer/Role")) }, accessFlags := 9, code := some k6c0 }
def k6c1 : Code := { maxStack := 2, maxLocals := 5, code := prog_7_method_4_code, exceptionTable := #[], attributes := #[] }
def k6m1 : Method := { name := "challengedWith", desc := "(I)Lcom/example/vouchsafe/bearer/Role;", sig := { parameters := [.int], returnType := some (.object "com/example/vouchsafe/bearer/Role") }, accessFlags := 9, code := some k6c1 }
/-- com/example/vouchsafe/bearer/Role -/
def k6 : Class := { plain "com/example/vouchsafe/bearer/Role" (some 5) with
  accessFlags := 16433
  interfaces := #[]
  cf := some (fileOf pool6 1 #[] #[{ accessFlags := 9, nameIndex := 42, descriptorIndex := 43, attributes := #[] }, { accessFlags := 9, nameIndex := 66, descriptorIndex := 67, attributes := #[] }] 16433 20 #[] #[{ accessFlags := 16409, nameIndex := 5, descriptorIndex := 6, attributes := #[] }, { accessFlags := 16409, nameIndex := 9, descriptorIndex := 6, attributes := #[] }, { accessFlags := 18, nameIndex := 31, descriptorIndex := 32, attributes := #[] }, { accessFlags := 18, nameIndex := 35, descriptorIndex := 36, attributes := #[] }, { accessFlags := 18, nameIndex := 39, descriptorIndex := 36, attributes := #[] }, { accessFlags := 4122, nameIndex := 12, descriptorIndex := 13, attributes := #[] }])
  fields := #[{ name := "REGISTRAR", type := (.object "com/example/vouchsafe/bearer/Role"), accessFlags := 16409, slot := 0, constantValue := 0 }, { name := "PROXY", type := (.object "com/example/vouchsafe/bearer/Role"), accessFlags := 16409, slot := 1, constantValue := 0 }, { name := "status", type := .int, accessFlags := 18, slot := 3, constantValue := 0 }, { name := "challengeField", type := (.object "java/lang/String"), accessFlags := 18, slot := 4, constantValue := 0 }, { name := "credentialsField", type := (.object "java/lang/String"), accessFlags := 18, slot := 5, constantValue := 0 }, { name := "$VALUES", type := (.array (.object "com/example/vouchsafe/bearer/Role")), accessFlags := 4122, slot := 2, constantValue := 0 }]
  methods := #[k6m0, k6m1]
  instanceTypes := #[(.object "java/lang/String"), .int, .int, .int, (.object "java/lang/String"), (.object "java/lang/String")]
  staticTypes := #[(.object "com/example/vouchsafe/bearer/Role"), (.object "com/example/vouchsafe/bearer/Role"), (.array (.object "com/example/vouchsafe/bearer/Role"))]
  resolved := Array.replicate 76 none
  statics := some 0 }

def pool7 : Array CpInfo := pool [(1, .class_ 2), (0, u "java/lang/Cloneable"), (0, .class_ 4), (0, u "java/lang/Object")] 2

/-- java/lang/Cloneable -/
def k7 : Class := { plain "java/lang/Cloneable" (some 0) with
  accessFlags := 1537
  interfaces := #[]
  cf := some (fileOf pool7 1 #[] #[] 1537 3 #[] #[])
  fields := #[]
  methods := #[]
  instanceTypes := #[]
  staticTypes := #[]
  resolved := Array.replicate 7 none
  statics := none }

/-- the primitive byte -/
def k8 : Class := { plain "byte" none with kind := .primitive 'B', accessFlags := 0x411 }
/-- [B -/
def k9 : Class := { plain "[B" (some 0) with kind := .array 8 .byte, interfaces := #[7, 4], accessFlags := 1041 }

/-- the primitive int -/
def k10 : Class := { plain "int" none with kind := .primitive 'I', accessFlags := 0x411 }
/-- [I -/
def k11 : Class := { plain "[I" (some 0) with kind := .array 10 .int, interfaces := #[7, 4], accessFlags := 1041 }

/-- [Lcom/example/vouchsafe/bearer/Role; -/
def k12 : Class := { plain "[Lcom/example/vouchsafe/bearer/Role;" (some 0) with kind := .array 6 (.object "com/example/vouchsafe/bearer/Role"), interfaces := #[7, 4], accessFlags := 1041 }

def heap : Heap := #[{ cls := 6, slots := #[.ref 2, .ref 3, .ref 1], vm := .statics 6 },
  { cls := 12, slots := #[.ref 2, .ref 3], vm := .none },
  { cls := 6, slots := #[.null, .int 0, .int 0, .int 401, .null, .null], vm := .none },
  { cls := 6, slots := #[.null, .int 0, .int 0, .int 407, .null, .null], vm := .none }]
def classes : Array Class := #[k0, k1, k2, k3, k4, k5, k6, k7, k8, k9, k10, k11, k12]
def interned : List (Array UInt16 × Addr) := []
def slotsUsed : Nat := 17
def theMethod : MethodId := ⟨1, 1⟩
def args0 : Array Value := #[.int 5, .int 5]
def aboutOver (below : List Frame) : State where
  vm := { classes := classes, interned := interned.toArray }
  heap := heap
  slotsUsed := slotsUsed
  threads := #[{ frames := .invoking theMethod args0 :: below }]
def below0 : List Frame := [.native { method := ⟨0, 0⟩, args := #[] }]
def about1 : State := aboutOver below0
def p0 : Program := .bare "" "" ""
def e0 : Env := launch0.env 0 0 0
theorem w_frames : about1.frames = Frame.invoking theMethod args0 :: below0 := rfl
set_option maxRecDepth 65536 in
theorem w_args : argsFit about1.vm theMethod args0 = true := by decide +kernel
set_option maxRecDepth 65536 in
theorem w_heap : heapFits about1 = true := by decide +kernel
set_option maxRecDepth 65536 in
theorem w_runnable : about1.curStatus? = some .runnable := by decide +kernel
set_option maxRecDepth 65536 in
theorem w_alone : about1.alone = true := by decide +kernel
set_option maxRecDepth 65536 in
theorem w_named : about1.methodNamed? x = some theMethod := by decide +kernel
set_option maxRecDepth 65536 in
theorem w_hears : about1.hears theMethod below0 = true := by decide +kernel
set_option maxRecDepth 65536 in
theorem w_ripe : about1.ripe theMethod args0 below0 = true := by decide +kernel
theorem w_running : about1.status = .running := rfl
set_option maxRecDepth 65536 in
theorem w_room : about1.hasRoom e0.platform room_1 = true :=
  launch0.hasRoom_least _ room_1 (by decide +kernel) (by decide +kernel) (by decide +kernel) (by decide +kernel) (by decide +kernel) (by decide +kernel)
theorem allAtoms_all (ts : List Jvm.Cond) (a : Array Jvm.Value) (st : Jvm.State) : (allAtoms ts).before a st = ts.all (fun c => c.before a st) := by
  induction ts with
  | nil => rfl
  | cons c t ih =>
    show (Jvm.Cond.and c (allAtoms t)).before a st = _
    rw [Jvm.Cond.before_and, ih, List.all_cons]
def words1 : List Jvm.Cond := Jvm.Cond.code x code maxLocals ret :: tables_1
/-- a 'code' word, met by the world's own term for the bytes: nothing is compared byte by byte -/
theorem code_word {y : MethodName} {bytes : ByteArray} {mx : Nat} {rt : Option FieldType} {a : Array Value} {s : State} {m : MethodId} {meth : Method} {c : Code} (h1 : s.methodNamed? y = some m) (h2 : s.vm.method? m = some meth) (h3 : meth.code = some c) (h4 : c.code = bytes)
    (h5 : (c.maxLocals == mx && c.exceptionTable.isEmpty && decide (c.maxStack ≤ mostOperands) && decide (meth.sig.returnType = rt) && !meth.locks && decide (parseMethodDescriptor y.desc = some meth.sig)) = true) : (Jvm.Cond.code y bytes mx rt).before a s = true := by
  simp only [Bool.and_eq_true, beq_iff_eq, Bool.not_eq_true', decide_eq_true_eq] at h5
  obtain ⟨⟨⟨⟨⟨g1, g2⟩, g3⟩, g4⟩, g5⟩, g6⟩ := h5
  simp [Cond.before, Cond.holds, Cond.value, h1, h2, h3, h4, g1, g2, g3, g4, g5, g6]
def isCode : Jvm.Cond → Bool
  | .code _ _ _ _ => true
  | _ => false
theorem all_split {L : List Jvm.Cond} {P : Jvm.Cond → Bool} (h1 : L.all (fun c => isCode c || P c) = true) (h2 : ∀ c ∈ L.filter isCode, P c = true) : L.all P = true := by
  refine List.all_eq_true.mpr fun c hc => ?_
  have h := List.all_eq_true.mp h1 c hc
  rcases Bool.eq_false_or_eq_true (isCode c) with hi | hi
  · exact h2 c (List.mem_filter.mpr ⟨hc, hi⟩)
  · simpa [hi] using h
set_option maxRecDepth 65536 in
theorem w_c0 : (Jvm.Cond.code x code maxLocals ret).before args0 about1 = true := code_word (m := ⟨1, 1⟩) (meth := k1m1) (c := k1c1) (by decide +kernel) rfl rfl rfl (by decide +kernel)
set_option maxRecDepth 65536 in
theorem w_c1 : (Jvm.Cond.code ({ cls := "com/example/vouchsafe/bearer/Role", name := "challengedWith", desc := "(I)Lcom/example/vouchsafe/bearer/Role;" } : Jvm.MethodName) prog_7_method_4_code (5 : Nat) (Option.some (Jvm.ClassFile.FieldType.object "com/example/vouchsafe/bearer/Role"))).before args0 about1 = true := code_word (m := ⟨6, 1⟩) (meth := k6m1) (c := k6c1) (by decide +kernel) rfl rfl rfl (by decide +kernel)
set_option maxRecDepth 65536 in
theorem w_c2 : (Jvm.Cond.code ({ cls := "com/example/vouchsafe/bearer/Role", name := "values", desc := "()[Lcom/example/vouchsafe/bearer/Role;" } : Jvm.MethodName) prog_7_method_1_code (0 : Nat) (Option.some (Jvm.ClassFile.FieldType.array (Jvm.ClassFile.FieldType.object "com/example/vouchsafe/bearer/Role")))).before args0 about1 = true := code_word (m := ⟨6, 0⟩) (meth := k6m0) (c := k6c0) (by decide +kernel) rfl rfl rfl (by decide +kernel)
def codes1 : List Jvm.Cond := [Jvm.Cond.code x code maxLocals ret, Jvm.Cond.code ({ cls := "com/example/vouchsafe/bearer/Role", name := "challengedWith", desc := "(I)Lcom/example/vouchsafe/bearer/Role;" } : Jvm.MethodName) prog_7_method_4_code (5 : Nat) (Option.some (Jvm.ClassFile.FieldType.object "com/example/vouchsafe/bearer/Role")), Jvm.Cond.code ({ cls := "com/example/vouchsafe/bearer/Role", name := "values", desc := "()[Lcom/example/vouchsafe/bearer/Role;" } : Jvm.MethodName) prog_7_method_1_code (0 : Nat) (Option.some (Jvm.ClassFile.FieldType.array (Jvm.ClassFile.FieldType.object "com/example/vouchsafe/bearer/Role")))]
set_option maxRecDepth 65536 in
theorem codes_eq : words1.filter isCode = codes1 := rfl
theorem w_codes : ∀ c ∈ words1.filter isCode, c.before args0 about1 = true := by
  rw [codes_eq]
  intro c hc
  simp only [codes1, List.mem_cons, List.not_mem_nil, or_false] at hc
  rcases hc with rfl | rfl | rfl
  · exact w_c0
  · exact w_c1
  · exact w_c2
set_option maxRecDepth 65536 in
theorem w_t1 : (words1.take 24).all (fun c => isCode c || c.before args0 about1) = true := by decide +kernel
set_option maxRecDepth 65536 in
theorem w_t2 : (words1.drop 24).all (fun c => isCode c || c.before args0 about1) = true := by decide +kernel
theorem w_tables : (allAtoms (Jvm.Cond.code x code maxLocals ret :: tables_1)).before args0 about1 = true := by
  rw [allAtoms_all]
  show words1.all (fun c => c.before args0 about1) = true
  refine all_split ?_ w_codes
  rw [← List.take_append_drop 24 words1, List.all_append, w_t1, w_t2]
  rfl
set_option maxRecDepth 65536 in
theorem w_case : (Jvm.Cond.and given_1 narrow_1).before args0 about1 = true := by decide +kernel
theorem w_applies : (headSpec (Jvm.Cond.code x code maxLocals ret :: tables_1) room_1).applies x e0.platform about1 = true :=
  (Spec.applies_iff w_frames).mpr ⟨w_running, w_runnable, w_alone, w_named, w_hears, w_ripe, w_room, w_tables⟩
theorem atStart : AtStart classFile x code maxLocals ret World_1 tables_1 room_1 Calls_1 rest_1 Pre_1 launch0 p0 e0 about1 theMethod args0 below0 :=
  ⟨lists_1, trivial, launch0.admits_env _ _ _, launch0.least_env, fairChoices_fair.cas, fairChoices_fair.clock, w_frames, w_args, w_heap, w_applies, trivial, trivial, w_case⟩
end start1
theorem witness_1 : WitnessClaimed_1 := ⟨start1.p0, start1.e0, start1.about1, start1.theMethod, start1.args0, start1.below0, start1.atStart⟩
end Jvm.Pilot.@@N@@
