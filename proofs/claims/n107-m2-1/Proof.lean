import JvmDerived
import JvmDerived.Pilot.@@N@@Statement
import JvmDerived.Pilot.@@N@@Code
set_option linter.unusedVariables false
set_option linter.unusedSimpArgs false
set_option maxRecDepth 65536
set_option maxHeartbeats 40000000
namespace Jvm.RoadKit
open Sem ClassFile Op Lib Jvm.Stand Jvm.Free Jvm.LawKit
section New
variable {p : Program} {l : Launch} {e : Env} {R : Room} {s : State} {m : MethodId} {args : Array Value} {below : List Frame} {meth : Method} {c : Code} {T : State} {locs : List Loc} {cells slots : Nat}
theorem retI (X : Stand p l e R s m args below meth c T locs cells slots) (hx : p.tables.exec = Jvm.exec) {pc : Nat} {Ls : Array Slot} {z : Int32} {rest : List Value} (hret : meth.sig.returnType = some .int) (hd : decode c.code pc = .ok (.ireturn, 1)) {fs : List Frame}
    (hl : ∀ (f : JFrame) (acts : List Action), f.method = m → f.locked = none → f.entered = [] → (doReturn e (T.setTop f) acts (some (.int z))).1 = T.setFrames fs) : Steps p.tables e below (T.setTop (mkF m pc Ls (.int z :: rest))) (T.setFrames fs) := by
  have hm' : T.vm.method? m = some meth := X.method'
  have hn : narrow .int (.int z) = .int z := rfl
  show Steps p.tables e below (T.setTop { method := m, pc := pc, locals := Ls, stack := _ :: rest, locked := none }) _
  jvm_step X.here [X.here.top, hx, hd, hm', hret, hn]
  first | (intro acts; rw [hl _ acts rfl rfl rfl]) | rw [hl _ _ rfl rfl rfl]
  exact Steps.refl _
end New
end Jvm.RoadKit
namespace Jvm.Pilot.@@N@@
open Jvm Jvm.ClassFile Sem Op Lib Jvm.Free Jvm.Stand Jvm.LawKit Jvm.RoadKit Bundle Jvm.Pilot.@@N@@.Jvm.D
theorem own_w {Z : State} {a0 : Array Value} (hw : ∀ d ∈ tables_1, d.before a0 Z = true) (k : Nat) {d : Jvm.Cond} (h : tables_1[k]? = some d) : d.before a0 Z = true := hw _ (List.mem_of_getElem? h)
abbrev own_R (f c s l : Nat) : Room := { frames := f, cells := c, slots := s, locals := l }
abbrev vU : Slot := .unset
abbrev vS : Slot := .second
abbrev vN : Slot := .val .null
abbrev vI (x : Int32) : Slot := .val (.int x)
abbrev vJ (x : Int64) : Slot := .val (.long x)
abbrev vR (x : Addr) : Slot := .val (.ref x)
abbrev vV (x : Value) : Slot := .val x
abbrev Go (p : Program) (e : Env) (below : List Frame) (T : State) (f : JFrame) (t : State) : Prop := Steps p.tables e below (T.setTop f) t
theorem own_and255L (x : Int32) : ¬ (x &&& (255 : Int32)) < 0 ∧ ¬ (255 : Int32) < (x &&& (255 : Int32)) := by
  have h1 := c_mask x 255 8 (by decide) (by decide)
  have e1 : (255 : Int32).toInt = 255 := rfl
  rw [Int32.lt_iff_toInt_lt, Int32.lt_iff_toInt_lt, Int32.toInt_zero]
  constructor <;> omega
theorem own_narR {v : Value} (t : FieldType) (ht : t.isReference = true) (hv : v.isRef = true) : narrow t v = v := by cases t <;> cases v <;> simp_all [narrow, FieldType.isReference, Value.isRef]
abbrev OwnMet (l : Launch) (y : MethodName) (ws : List Jvm.Cond) (rm : Room) (A : Array Value) (Z : State) (h0 : Heap) (Q : Option Value → Heap → List Loc → Prop) : Prop :=
  MetFree l y (head1 ws rm) (fun a U => a = A ∧ Z.Warmed39 U.vm ∧ U.heap = h0) (fun _ _ _ _ _ => True) (fun _ U o U' => ∃ v L, o = .returned v ∧ Q v U'.heap L ∧ FrameEnd U o U' L rm.cells rm.slots)
theorem own_body {l : Launch} {y : MethodName} {ws : List Jvm.Cond} {rm : Room} {bytes : ByteArray} {maxL : Nat} {ret : Option FieldType} {A : Array Value} {Z : State} {h0 : Heap} {Q : Option Value → Heap → List Loc → Prop} (hp : plainFor y = true)
    (his : ∀ args (s : State) m, (head1 ws rm).pre.before args s = true → s.methodNamed? y = some m → ∃ meth c, s.vm.method? m = some meth ∧ meth.code = some c ∧ c.code = bytes ∧ c.maxLocals = maxL ∧ meth.sig.returnType = ret ∧ meth.locks = false)
    (body : ∀ (p : Program) (e : Env) (s : State) (m : MethodId) (below : List Frame) (meth : Method) (c : Code) (s₁ : State), p.tables.exec = Jvm.exec → c.code = bytes → c.maxLocals = maxL → s.vm.findClass y.cls = some m.cls → meth.name = y.name → meth.sig.returnType = ret → Z.Warmed39 s.vm → Stand p l e rm s m A below meth c s₁ [] 0 0 → s₁.heap = h0 →
      ∃ (v : Option Value) (T : State) (locs : List Loc) (cells slots : Nat) (f : JFrame), Stand p l e rm s m A below meth c T locs cells slots ∧ cells ≤ rm.cells ∧ slots ≤ rm.slots ∧ (ret = none → v = none) ∧ (∀ t, Go p e below T f t → Go p e below s₁ (entryFrame m A maxL) t) ∧
        (∀ fs, (∀ (f : JFrame) (acts : List Action), f.method = m → f.locked = none → f.entered = [] → (doReturn e (T.setTop f) acts v).1 = T.setFrames fs) → Go p e below T f (T.setFrames fs)) ∧ Q v T.heap locs) :
    MetFree l y (head1 ws rm) (fun a U => a = A ∧ Z.Warmed39 U.vm ∧ U.heap = h0) (fun _ _ _ _ _ => True) (fun _ U o U' => ∃ v L, o = .returned v ∧ Q v U'.heap L ∧ FrameEnd U o U' L rm.cells rm.slots) := by
  refine MetFree.of_bodySF hp his ?_
  intro p e s m args below meth c s₁ Bd hml0 hP hK
  obtain ⟨rfl, hZ, hh⟩ := hP
  obtain ⟨v, T, locs, cells, slots, f, X, hc, hs, hv, q, hf, hQ⟩ := body p e s m below meth c s₁ Bd.exec Bd.bytes hml0 (findClass_of_methodNamed Bd.named) (name_of_methodNamed Bd.named Bd.method).1 Bd.returns hZ (Stand.of_body Bd) (by rw [← hh, Bd.state]; rfl)
  obtain ⟨fs, hr, hrun, hended, hW, hsame⟩ := X.leave (v := v) (fun h => hv (Bd.returns ▸ h))
  exact ⟨_, _, q _ (hf fs hr), hrun, hended, v, locs, rfl, hQ, ⟨_, rfl⟩, hW, hsame.mono hc hs⟩
theorem own_eqI {args : Array Value} {Z : State} {t : Term} {k : Int32} (h : (Jvm.Cond.eq t (Term.int k)).value args Z none Z [] = some true) : t.eval args Z none [] Z = some (.int k) := by
  obtain ⟨x, y, e1, e2, k1, k2⟩ := cmp_v (Or.inl h)
  rw [Term.int_eval] at e2; cases Option.some.inj e2
  cases x <;> first | (obtain ⟨z, hz⟩ := k2; cases hz; simp [Cond.value, e1, Term.int_eval] at h; rw [e1, h]) | (obtain ⟨z, hz⟩ := k2; cases hz)
theorem own_fldI {args : Array Value} {Z : State} {t : Term} {k : Int32} {C n d : String} {w : Addr} (ht : t.eval args Z none [] Z = some (.ref w)) (h : (Jvm.Cond.eq (Term.field t C n d) (Term.int k)).value args Z none Z [] = some true) : Fld Z Z.heap w C n d (.int k) :=
  Fld.start ((fld_at ht).symm.trans (own_eqI h))
abbrev sk0 : String := "()Ljava/lang/Object;"
abbrev sk1 : String := "Lcom/example/sherman/sherman/service/Step;"
abbrev sk2 : String := "Lcom/example/sherman/sherman/service/Verification$Status;"
abbrev sk3 : String := "Ljava/lang/Object;"
abbrev sk4 : String := "Ljava/lang/String;"
abbrev sk5 : String := "Ljava/util/List;"
abbrev sk6 : String := "[Ljava/lang/Object;"
abbrev sk7 : String := "com/example/sherman/sherman/service/Step"
abbrev sk8 : String := "com/example/sherman/sherman/service/Verification"
abbrev sk9 : String := "com/example/sherman/sherman/service/Verification$Outcome"
abbrev sk10 : String := "com/example/sherman/sherman/service/Verification$Status"
abbrev sk11 : String := "com/example/sherman/sherman/service/VerificationRefusedAtPinLaw"
abbrev sk12 : String := "elementData"
abbrev sk13 : String := "isListIterator"
abbrev sk14 : String := "java/lang/Object"
abbrev sk15 : String := "java/lang/String"
abbrev sk16 : String := "java/util/AbstractCollection"
abbrev sk17 : String := "java/util/AbstractList"
abbrev sk18 : String := "java/util/ArrayList"
abbrev sk19 : String := "java/util/ImmutableCollections$List12"
abbrev sk20 : String := "java/util/ImmutableCollections$ListItr"
abbrev sk21 : String := "java/util/ImmutableCollections$ListN"
abbrev sk22 : String := "java/util/Iterator"
abbrev sk23 : String := "java/util/List"
abbrev sk24 : String := "java/util/Optional"
theorem o4 {a b c d e : Prop} (h : e) : a ∨ b ∨ c ∨ d ∨ e := Or.inr (Or.inr (Or.inr (Or.inr h)))
theorem ox {Z : State} {a0 : Array Value} (hw : ∀ d ∈ tables_1, d.before a0 Z = true) (k : Nat) {d : Jvm.Cond} (h : tables_1[k]? = some d) : d.before a0 Z = true := hw _ (List.mem_of_getElem? h)
theorem ow {Z s : State} {a0 args : Array Value} (hZ : Z.Warmed39 s.vm) (hw : ∀ d ∈ tables_1, d.before a0 Z = true) (k : Nat) {d : Jvm.Cond} (h : tables_1[k]? = some d) (hd : (d.onTables && d.keepsFace) = true := by first | rfl | simp [Cond.onTables, Cond.keepsFace, Cond.keeps, Cond.steady]) : d.before args s = true := mvT hZ (own_w hw k h) hd
theorem own_le0 {n : Nat} : 2 * 0 + n ≤ n := Nat.le_of_eq (Nat.zero_add n)
abbrev ym0 : MethodName := ⟨"java/util/AbstractCollection", "<init>", "()V"⟩
abbrev ym1 : MethodName := ⟨"java/lang/Record", "<init>", "()V"⟩
abbrev ym2 : MethodName := ⟨"java/util/AbstractList", "<init>", "()V"⟩
abbrev ym3 : MethodName := ⟨"java/util/ArrayList", "<init>", "()V"⟩
abbrev ym4 : MethodName := ⟨"com/example/sherman/sherman/service/Verification$Outcome", "<init>", "(Lcom/example/sherman/sherman/service/Step;Lcom/example/sherman/sherman/service/Verification$Status;Ljava/lang/String;)V"⟩
abbrev ym5 : MethodName := ⟨"com/example/sherman/sherman/service/VerificationRefusedAtPinLaw", "status", "(I)Lcom/example/sherman/sherman/service/Verification$Status;"⟩
abbrev ym6 : MethodName := ⟨"com/example/sherman/sherman/service/VerificationRefusedAtPinLaw", "step", "(I)Lcom/example/sherman/sherman/service/Step;"⟩
abbrev ym7 : MethodName := ⟨"com/example/sherman/sherman/service/VerificationRefusedAtPinLaw", "outcome", "(I)Lcom/example/sherman/sherman/service/Verification$Outcome;"⟩
abbrev ym8 : MethodName := ⟨"java/lang/Math", "max", "(II)I"⟩
abbrev ym9 : MethodName := ⟨"java/util/ArrayList", "grow", "(I)[Ljava/lang/Object;"⟩
abbrev ym10 : MethodName := ⟨"java/util/ArrayList", "grow", "()[Ljava/lang/Object;"⟩
abbrev ym11 : MethodName := ⟨"java/util/ArrayList", "add", "(Ljava/lang/Object;[Ljava/lang/Object;I)V"⟩
abbrev ym12 : MethodName := ⟨"java/util/ArrayList", "add", "(Ljava/lang/Object;)Z"⟩
abbrev ym13 : MethodName := ⟨"java/lang/StringLatin1", "canEncode", "(C)Z"⟩
abbrev ym14 : MethodName := ⟨"java/lang/StringLatin1", "toBytes", "(C)[B"⟩
abbrev ym15 : MethodName := ⟨"java/lang/String", "<init>", "([BB)V"⟩
abbrev ym16 : MethodName := ⟨"java/lang/String", "valueOf", "(C)Ljava/lang/String;"⟩
abbrev ym17 : MethodName := ⟨"java/util/ArrayList", "isEmpty", "()Z"⟩
abbrev ym18 : MethodName := ⟨"java/util/List", "of", "()Ljava/util/List;"⟩
abbrev ym19 : MethodName := ⟨"java/util/Objects", "requireNonNull", "(Ljava/lang/Object;)Ljava/lang/Object;"⟩
abbrev ym20 : MethodName := ⟨"java/util/ImmutableCollections$AbstractImmutableCollection", "<init>", "()V"⟩
abbrev ym21 : MethodName := ⟨"java/util/ImmutableCollections$AbstractImmutableList", "<init>", "()V"⟩
abbrev ym22 : MethodName := ⟨"java/util/ImmutableCollections$ListN", "<init>", "([Ljava/lang/Object;Z)V"⟩
abbrev ym23 : MethodName := ⟨"java/util/ImmutableCollections$List12", "<init>", "(Ljava/lang/Object;)V"⟩
abbrev ym24 : MethodName := ⟨"java/util/ImmutableCollections$List12", "<init>", "(Ljava/lang/Object;Ljava/lang/Object;)V"⟩
abbrev ym25 : MethodName := ⟨"java/lang/Math", "min", "(II)I"⟩
abbrev ym26 : MethodName := ⟨"java/util/Arrays", "copyOf", "([Ljava/lang/Object;ILjava/lang/Class;)[Ljava/lang/Object;"⟩
abbrev ym27 : MethodName := ⟨"java/util/Arrays", "copyOf", "([Ljava/lang/Object;I)[Ljava/lang/Object;"⟩
abbrev ym28 : MethodName := ⟨"java/util/ArrayList", "toArray", "()[Ljava/lang/Object;"⟩
abbrev ym29 : MethodName := ⟨"java/util/List", "of", "([Ljava/lang/Object;)Ljava/util/List;"⟩
abbrev ym30 : MethodName := ⟨"java/util/ImmutableCollections", "listCopy", "(Ljava/util/Collection;)Ljava/util/List;"⟩
abbrev ym31 : MethodName := ⟨"java/util/Collection", "isEmpty", "()Z"⟩
abbrev ym32 : MethodName := ⟨"java/util/Collection", "toArray", "()[Ljava/lang/Object;"⟩
abbrev ym33 : MethodName := ⟨"java/util/List", "copyOf", "(Ljava/util/Collection;)Ljava/util/List;"⟩
abbrev ym34 : MethodName := ⟨"java/util/ImmutableCollections", "listFromArray", "([Ljava/lang/Object;)Ljava/util/List;"⟩
abbrev ym35 : MethodName := ⟨"com/example/sherman/sherman/service/Verification", "<init>", "(Ljava/util/List;Ljava/util/List;)V"⟩
abbrev ym36 : MethodName := ⟨"java/util/ImmutableCollections$ListItr", "<init>", "(Ljava/util/List;I)V"⟩
abbrev ym37 : MethodName := ⟨"java/util/ImmutableCollections$ListN", "size", "()I"⟩
abbrev ym38 : MethodName := ⟨"java/util/ImmutableCollections$List12", "size", "()I"⟩
abbrev ym39 : MethodName := ⟨"java/util/ImmutableCollections$AbstractImmutableList", "iterator", "()Ljava/util/Iterator;"⟩
abbrev ym40 : MethodName := ⟨"java/util/ImmutableCollections$AbstractImmutableList", "size", "()I"⟩
abbrev ym41 : MethodName := ⟨"java/util/ImmutableCollections$ListItr", "hasNext", "()Z"⟩
abbrev ym42 : MethodName := ⟨"java/util/ImmutableCollections$ListN", "get", "(I)Ljava/lang/Object;"⟩
abbrev ym43 : MethodName := ⟨"java/util/ImmutableCollections$List12", "get", "(I)Ljava/lang/Object;"⟩
abbrev ym44 : MethodName := ⟨"java/util/ImmutableCollections$ListItr", "next", "()Ljava/lang/Object;"⟩
abbrev ym45 : MethodName := ⟨"java/util/List", "get", "(I)Ljava/lang/Object;"⟩
abbrev ym46 : MethodName := ⟨"com/example/sherman/sherman/service/Verification$Outcome", "status", "()Lcom/example/sherman/sherman/service/Verification$Status;"⟩
abbrev ym47 : MethodName := ⟨"com/example/sherman/sherman/service/Verification$Outcome", "step", "()Lcom/example/sherman/sherman/service/Step;"⟩
abbrev ym48 : MethodName := ⟨"java/util/Optional", "<init>", "(Ljava/lang/Object;)V"⟩
abbrev ym49 : MethodName := ⟨"java/util/Optional", "of", "(Ljava/lang/Object;)Ljava/util/Optional;"⟩
abbrev ym50 : MethodName := ⟨"java/util/Optional", "empty", "()Ljava/util/Optional;"⟩
abbrev ym51 : MethodName := ⟨"java/util/Optional", "isEmpty", "()Z"⟩
abbrev ym52 : MethodName := ⟨"java/util/Optional", "isPresent", "()Z"⟩
abbrev ym53 : MethodName := ⟨"java/util/Optional", "get", "()Ljava/lang/Object;"⟩
abbrev ym54 : MethodName := ⟨"com/example/sherman/sherman/service/Verification", "refusedAt", "()Ljava/util/Optional;"⟩
abbrev ym55 : MethodName := ⟨"java/util/List", "iterator", "()Ljava/util/Iterator;"⟩
abbrev ym56 : MethodName := ⟨"java/util/Iterator", "hasNext", "()Z"⟩
abbrev ym57 : MethodName := ⟨"java/util/Iterator", "next", "()Ljava/lang/Object;"⟩
theorem own_lenI {args : Array Value} {Z : State} {t : Term} {k : Int32} {x : Addr} {cl : Cell} {ty : FieldType} (ht : t.eval args Z none [] Z = some (.ref x)) (A : Arr Z Z.heap x cl ty) (h : (Jvm.Cond.eq (Term.length t) (Term.int k)).value args Z none Z [] = some true) : cl.slots.size < 2 ^ 31 ∧ cl.slots.size.toInt32 = k := by
  obtain ⟨b, cell, e1, e2, e3, e4⟩ := Jvm.Lib.length_spec (own_eqI h)
  have eb : b = x := Value.ref.inj (Option.some.inj (e1.symm.trans ht))
  rw [eb] at e2
  have ec : cell = cl := Option.some.inj (e2.symm.trans (Arr.fin (Vm.Alike.refl _) A))
  rw [ec] at e3 e4
  exact ⟨e3, (Value.int.inj e4).symm⟩
theorem own_elI {args : Array Value} {Z : State} {t u : Term} {j : Int32} {x : Addr} {cl : Cell} {ty : FieldType} {v : Value} (ht : t.eval args Z none [] Z = some (.ref x)) (A : Arr Z Z.heap x cl ty) (hu : u.eval args Z none [] Z = some v) (hv : v.isRef = true ∨ ∃ z, v = .int z) (h : (Jvm.Cond.eq (Term.elem t (Term.int j)) u).value args Z none Z [] = some true) : cl.slots[j.toNatClampNeg]? = some v := by
  obtain ⟨a, b, e1, e2, k1, k2⟩ := cmp_v (Or.inl h)
  cases Option.some.inj (e2.symm.trans hu)
  have q := (elem_in e1 ht (Term.int_eval j) A.1).2
  have e : a = v := by
    rcases hv with hv | ⟨z, rfl⟩
    · have ha : a.isRef = true := by cases v <;> simp [Kin, Value.isRef] at k2 hv ⊢ <;> exact k2
      exact gotT (eq_R e1 e2 ha hv) h
    · obtain ⟨z', rfl⟩ := k2
      have := gotT (Cond.eq_ints e1 e2) h
      rw [this]
  rw [← e]; exact q
theorem own_fldN {args : Array Value} {Z : State} {t : Term} {C n d : String} {w : Addr} (ht : t.eval args Z none [] Z = some (.ref w)) (h : (Jvm.Cond.eq (Term.field t C n d) Term.null).value args Z none Z [] = some true) : Fld Z Z.heap w C n d .null := by
  obtain ⟨x, y, e1, e2, k1, k2⟩ := cmp_v (Or.inl h)
  cases Option.some.inj ((show Term.null.eval args Z none [] Z = some .null from rfl).symm.trans e2)
  have hx : x.isRef = true := by cases x <;> simp [Kin, Value.isRef] at k2 ⊢ <;> exact k2
  cases gotT (eq_R e1 e2 hx rfl) h
  exact Fld.start ((fld_at ht).symm.trans e1)
def own_Mir (Z : State) (C : String) (mr : Addr) : Prop := ∃ (c : ClassId) (k : Class), Z.vm.findClass C = some c ∧ Z.vm.classes[c]? = some k ∧ k.mirror = some mr
def Cx (Z : State) (cw : Nat → Nat) (z_cs : Int32) : Prop := Sta Z Z.heap sk10 "OK" sk2 (.ref (cw 0)) ∧ Exa Z Z.heap (cw 0) sk10 ∧ Sta Z Z.heap sk10 "FAILED" sk2 (.ref (cw 1)) ∧ Exa Z Z.heap (cw 1) sk10 ∧ Sta Z Z.heap sk7 "INTEGRITY" sk1 (.ref (cw 2)) ∧ Exa Z Z.heap (cw 2) sk7 ∧ Sta Z Z.heap sk7 "SIGNATURE" sk1 (.ref (cw 3)) ∧ Exa Z Z.heap (cw 3) sk7 ∧ Sta Z Z.heap sk7 "KEY_HASH" sk1 (.ref (cw 4)) ∧ Exa Z Z.heap (cw 4) sk7 ∧ Sta Z Z.heap sk7 "SECURITY_HASH" sk1 (.ref (cw 5)) ∧ Exa Z Z.heap (cw 5) sk7 ∧ Sta Z Z.heap sk10 "SKIPPED" sk2 (.ref (cw 6)) ∧ Exa Z Z.heap (cw 6) sk10 ∧ Sta Z Z.heap sk7 "STRUCTURE" sk1 (.ref (cw 7)) ∧ Exa Z Z.heap (cw 7) sk7 ∧ Sta Z Z.heap sk7 "PM_HASH" sk1 (.ref (cw 8)) ∧ Exa Z Z.heap (cw 8) sk7 ∧ Sta Z Z.heap sk7 "RM_HASH" sk1 (.ref (cw 9)) ∧ Exa Z Z.heap (cw 9) sk7 ∧ Sta Z Z.heap sk7 "RANDOM_STRING" sk1 (.ref (cw 10)) ∧ Exa Z Z.heap (cw 10) sk7 ∧ Sta Z Z.heap sk7 "DECRYPTION" sk1 (.ref (cw 11)) ∧ Exa Z Z.heap (cw 11) sk7 ∧ Sta Z Z.heap sk7 "CORE_HASH" sk1 (.ref (cw 12)) ∧ Exa Z Z.heap (cw 12) sk7 ∧ Fld Z Z.heap (cw 0) "java/lang/Enum" "ordinal" "I" (.int 0) ∧ Fld Z Z.heap (cw 1) "java/lang/Enum" "ordinal" "I" (.int 2) ∧ Fld Z Z.heap (cw 6) "java/lang/Enum" "ordinal" "I" (.int 1) ∧ Sta Z Z.heap sk18 "DEFAULTCAPACITY_EMPTY_ELEMENTDATA" sk6 (.ref (cw 13)) ∧ Arv Z Z.heap (cw 13) (cw 14) (.object sk14) (0 : Int32) [] .null ∧ Sta Z Z.heap "java/util/ImmutableCollections" "EMPTY_LIST" "Ljava/util/ImmutableCollections$ListN;" (.ref (cw 15)) ∧ Exa Z Z.heap (cw 15) sk21 ∧ Fld Z Z.heap (cw 15) sk21 "elements" sk6 (.ref (cw 16)) ∧ Arv Z Z.heap (cw 16) (cw 17) (.object sk14) (0 : Int32) [] .null ∧ Sta Z Z.heap sk24 "EMPTY" "Ljava/util/Optional;" (.ref (cw 18)) ∧ Exa Z Z.heap (cw 18) sk24 ∧ Fld Z Z.heap (cw 18) sk24 "value" sk3 .null ∧ Sta Z Z.heap sk15 "COMPACT_STRINGS" "Z" (.int z_cs) ∧ ¬ (z_cs = (0 : Int32)) ∧ Sta Z Z.heap "java/util/ImmutableCollections" "EMPTY" sk3 (.ref (cw 19)) ∧ Exa Z Z.heap (cw 19) sk14 ∧ own_Mir Z sk6 (cw 20)
theorem own_ldcM {p : Program} {l : Launch} {e : Env} {R : Room} {s : State} {m : MethodId} {args : Array Value} {below : List Frame} {meth : Method} {c : Code} {T : State} {locs : List Loc} {cells slots : Nat} {Z : State} {a0 : Array Value} {h : Heap} (X : Stand p l e R s m args below meth c T locs cells slots) (hx : p.tables.exec = Jvm.exec) (hZ : Z.Warmed39 s.vm) {own C : String} {index : Nat} (hown : s.vm.findClass own = some m.cls) (w : (Cond.classLink own index C).before a0 Z = true) (eT : T.heap = h) {mr : Addr} (M : own_Mir Z C mr)
    {g : JFrame} (hg : g.method = m) (hd : decode c.code g.pc = .ok (.ldc index, 2)) : ∃ T', Stand p l e R s m args below meth c T' locs cells slots ∧ T'.heap = h ∧ ∀ target, Steps p.tables e below (T'.setTop { g with pc := g.pc + 2, stack := .ref mr :: g.stack }) target → Steps p.tables e below (T.setTop g) target := by
  obtain ⟨cc, kc, m1, m2, m3⟩ := M
  obtain ⟨k', q, ek⟩ := hZ.alike.2.2 _ _ m2
  have e3 : k'.mirror = some mr := by rw [ek]; exact m3
  obtain ⟨vm', X', st⟩ := X.ldcMirror hx hown (mvT hZ w) (a := mr) (by simp [Term.eval, hZ.alike.findClass, m1, q, e3]) hg hd
  exact ⟨_, X', eT, st⟩
theorem own_gcls {p : Program} {l : Launch} {e : Env} {R : Room} {s : State} {m : MethodId} {args : Array Value} {below : List Frame} {meth : Method} {c : Code} {T : State} {locs : List Loc} {cells slots : Nat} {Z : State} {a0 : Array Value} {h : Heap} (X : Stand p l e R s m args below meth c T locs cells slots) (hx : p.tables.exec = Jvm.exec) (hZ : Z.Warmed39 s.vm) {own C : String} {index : Nat} (hown : s.vm.findClass own = some m.cls)
    (w1 : (Cond.methodLink own index Jvm.Stand.gcN).before a0 Z = true) (w2 : (Cond.declares Jvm.Stand.gcN).before a0 Z = true) (w3 : (Cond.noSuperclass "java/lang/Object").before a0 Z = true) (w4 : (Cond.selects C Jvm.Stand.gcN Jvm.Stand.gcN).before a0 Z = true)
    (w5 : (Cond.instanceMethod Jvm.Stand.gcN).before a0 Z = true) (w6 : (Cond.native Jvm.Stand.gcN).before a0 Z = true) (eT : T.heap = h) {a : Addr} (E : Exa Z h a C) {mr : Addr} (M : own_Mir Z C mr)
    {g : JFrame} (hg : g.method = m) (hsize : g.locals.size = c.maxLocals) {rest : List Value} (hs : g.stack = .ref a :: rest) (hd : decode c.code g.pc = .ok (.invokevirtual index, 3)) (hf : 1 ≤ R.frames) {W : Nat} (hW : 2 * g.monitorRoom + (rest.map fun v => v.category).sum ≤ W) (hl : W + (nativeFrameWords "java/lang/Object" "getClass" 1 + 11) ≤ R.locals) :
    ∃ T', Stand p l e R s m args below meth c T' locs cells slots ∧ T'.heap = h ∧ ∀ target, Steps p.tables e below (T'.setTop { g with pc := g.pc + 3, stack := .ref mr :: rest }) target → Steps p.tables e below (T.setTop g) target := by
  obtain ⟨cB, kB, i1, i2, i3⟩ := isOf hZ eT E
  obtain ⟨cc, kc, m1, m2, m3⟩ := M
  rw [hZ.alike.findClass] at i1
  cases i1.symm.trans m1
  obtain ⟨k', q, ek⟩ := hZ.alike.2.2 _ _ m2
  have e3 : k'.mirror = some mr := by rw [ek]; exact m3
  obtain ⟨vm', X', st⟩ := X.getClassOf hx hown (mvT hZ w1) (mvT hZ w2) (nf_top (args := #[]) (mvT hZ w3)) (mvT hZ w4) (mvT hZ w5) (mvT hZ w6) (by rw [hZ.alike.findClass]; exact m1) i3 q e3 hg hsize hs hd hf (by omega)
  exact ⟨_, X', eT, st⟩
theorem own_NSroot {Z : State} {a0 : Array Value} {O K : String} {nk : Nat} (w : (Cond.noSuperclass O).before a0 Z = true) (wk : (Cond.instantiable K nk).before a0 Z = true) (hn : O ≠ K) : NS Z O K := by
  obtain ⟨c, k, h1, h2, h3, -, -⟩ := Cond.noSuperclass_spec w
  obtain ⟨t, kt, g1, -⟩ := Cond.instantiable_spec wk
  have ne := ids_ne h1 g1 hn
  refine ⟨c, t, h1, g1, fun fuel => ?_⟩
  cases fuel with
  | zero => rfl
  | succ f => simp [Vm.isSubclassAux, ne, h2, h3]
theorem own_NSno {Z : State} {a0 : Array Value} {C S K : String} {nk : Nat} (w : (Cond.superclass C S).before a0 Z = true) (wk : (Cond.instantiable K nk).before a0 Z = true) (n : NS Z C K) (hn : C ≠ K) : ∃ c t, Z.vm.findClass C = some c ∧ Z.vm.findClass K = some t ∧ Z.vm.assignable c t = false := by
  obtain ⟨c, t, h0, g0, n3⟩ := n
  obtain ⟨p, k, kp, h1, h2, h3, h4, h5, -, h7⟩ := Cond.superclass_spec h0 w
  obtain ⟨t', k', g1, g2, g3, g4, -⟩ := Cond.instantiable_spec wk
  cases g1.symm.trans g0
  have ne := ids_ne h0 g0 hn
  have g5 : k'.isInterface = false := by cases hi : k'.isInterface <;> simp_all
  refine ⟨c, t, h0, g0, ?_⟩
  show Z.vm.assignableAux (255 + 1) c t = false
  simp [Vm.assignableAux, ne, h2, g2, h5, g3, g5, Vm.isSubclass, n3]
theorem mvMN {Z s : State} {a0 args : Array Value} {own host : String} {index : Nat} {y : MethodName} (hZ : Z.Warmed39 s.vm) (w : (Cond.methodLinkNest own index y host).before a0 Z = true) : (Cond.methodLinkNest own index y host).before args s = true := (Cond.methodLinkNest_wide hZ w :)
theorem ef_9_R (m : MethodId) (x0 : Addr) : entryFrame m #[(.ref x0)] 1 = mkF m 0 #[.val (.ref x0)] [] := by first | (simp [entryFrame, mkF, argsToLocals, Value.category]; done) | rfl
theorem pn_9 : plainName "java/util/AbstractCollection" = true := by first | (simp [plainName, overriddenIn]; done) | decide +kernel
theorem d9_0 : decode jdk_22_method_1_code 0 = .ok (.aload_n 0, 1) := by decide +kernel
theorem d9_1 : decode jdk_22_method_1_code 1 = .ok (.invokespecial 1, 3) := by decide +kernel
theorem d9_4 : decode jdk_22_method_1_code 4 = .ok (.return_, 1) := by decide +kernel
def Q_rm9 (Z : State) (a1 : Addr) (cw : Nat → Nat) (z_cs : Int32) (h0 : Heap) (n0 : Nat) (v : Option Value) (h : Heap) (L : List Loc) : Prop := v = none ∧ Fr n0 L ∧ h = h0
theorem rm9 (l : Launch) (Z : State) (a0 : Array Value) (hw : ∀ d ∈ tables_1, d.before a0 Z = true) (ws : List Jvm.Cond) {cw : Nat → Nat} {z_cs : Int32} (cx : Cx Z cw z_cs) (a1 : Addr) (h0 : Heap) (n0 : Nat) (O0 : Old Z n0 h0) :
    OwnMet l ym0 (Jvm.Cond.code ym0 jdk_22_method_1_code 1 none :: ws) (own_R 1 0 0 12) #[(.ref a1)] Z h0 (Q_rm9 Z a1 cw z_cs h0 n0) := by
  refine own_body (plainFor_of_name pn_9) hisR fun p e s m below meth c s₁ hx hby hml hown hnm hret hZ X0 e0 => ?_
  have N0 := Fr.nil n0
  have pre0 : ∀ t, Go p e below s₁ (mkF m 0 #[vR a1] []) t → Go p e below s₁ (entryFrame m #[(.ref a1)] 1) t := fun t k => castTop (ef_9_R m a1) k
  have q21 := fun t (kt : Go p e below s₁ (mkF m 1 #[vR a1] [(.ref a1)]) t) => pre0 t (by
    show Go _ _ _ _ (mkF m 0 #[vR a1] []) _
    refine XS.aloadN X0.here hx rfl (hb hby d9_0) rfl rfl ?_
    exact kt)
  obtain ⟨T22, X22, e22, st22⟩ := initO X0 hx hZ hown (ox hw 69 rfl) (ox hw 39 rfl) (ox hw 40 rfl) e0 (g := (mkF m 1 #[vR a1] [(.ref a1)])) rfl (by rw [hml]; rfl) rfl (hb hby d9_1) (by decide) (W := 0) own_le0 (by decide)
  have q23 := fun t (kt : Go p e below T22 (mkF m 4 #[vR a1] []) t) => q21 t (st22 t kt)
  exact ⟨none, T22, _, _, _, _, X22, by decide, by decide, fun _ => rfl, q23, fun fs hr => X22.returnOut hx hret (hb hby d9_4) hr, by rw [e22]; exact ⟨rfl, N0, rfl⟩⟩
theorem ef_5_R (m : MethodId) (x0 : Addr) : entryFrame m #[(.ref x0)] 1 = mkF m 0 #[.val (.ref x0)] [] := by first | (simp [entryFrame, mkF, argsToLocals, Value.category]; done) | rfl
theorem pn_5 : plainName "java/lang/Record" = true := by first | (simp [plainName, overriddenIn]; done) | decide +kernel
theorem d5_0 : decode jdk_30_method_1_code 0 = .ok (.aload_n 0, 1) := by decide +kernel
theorem d5_1 : decode jdk_30_method_1_code 1 = .ok (.invokespecial 1, 3) := by decide +kernel
theorem d5_4 : decode jdk_30_method_1_code 4 = .ok (.return_, 1) := by decide +kernel
def Q_rm5 (Z : State) (a1 : Addr) (cw : Nat → Nat) (z_cs : Int32) (h0 : Heap) (n0 : Nat) (v : Option Value) (h : Heap) (L : List Loc) : Prop := v = none ∧ Fr n0 L ∧ h = h0
theorem rm5 (l : Launch) (Z : State) (a0 : Array Value) (hw : ∀ d ∈ tables_1, d.before a0 Z = true) (ws : List Jvm.Cond) {cw : Nat → Nat} {z_cs : Int32} (cx : Cx Z cw z_cs) (a1 : Addr) (h0 : Heap) (n0 : Nat) (O0 : Old Z n0 h0) :
    OwnMet l ym1 (Jvm.Cond.code ym1 jdk_30_method_1_code 1 none :: ws) (own_R 1 0 0 12) #[(.ref a1)] Z h0 (Q_rm5 Z a1 cw z_cs h0 n0) := by
  refine own_body (plainFor_of_name pn_5) hisR fun p e s m below meth c s₁ hx hby hml hown hnm hret hZ X0 e0 => ?_
  have N0 := Fr.nil n0
  have pre0 : ∀ t, Go p e below s₁ (mkF m 0 #[vR a1] []) t → Go p e below s₁ (entryFrame m #[(.ref a1)] 1) t := fun t k => castTop (ef_5_R m a1) k
  have q21 := fun t (kt : Go p e below s₁ (mkF m 1 #[vR a1] [(.ref a1)]) t) => pre0 t (by
    show Go _ _ _ _ (mkF m 0 #[vR a1] []) _
    refine XS.aloadN X0.here hx rfl (hb hby d5_0) rfl rfl ?_
    exact kt)
  obtain ⟨T22, X22, e22, st22⟩ := initO X0 hx hZ hown (ox hw 38 rfl) (ox hw 39 rfl) (ox hw 40 rfl) e0 (g := (mkF m 1 #[vR a1] [(.ref a1)])) rfl (by rw [hml]; rfl) rfl (hb hby d5_1) (by decide) (W := 0) own_le0 (by decide)
  have q23 := fun t (kt : Go p e below T22 (mkF m 4 #[vR a1] []) t) => q21 t (st22 t kt)
  exact ⟨none, T22, _, _, _, _, X22, by decide, by decide, fun _ => rfl, q23, fun fs hr => X22.returnOut hx hret (hb hby d5_4) hr, by rw [e22]; exact ⟨rfl, N0, rfl⟩⟩
theorem ef_8_R (m : MethodId) (x0 : Addr) : entryFrame m #[(.ref x0)] 1 = mkF m 0 #[.val (.ref x0)] [] := by first | (simp [entryFrame, mkF, argsToLocals, Value.category]; done) | rfl
theorem pn_8 : plainName "java/util/AbstractList" = true := by first | (simp [plainName, overriddenIn]; done) | decide +kernel
theorem d8_0 : decode jdk_39_method_1_code 0 = .ok (.aload_n 0, 1) := by decide +kernel
theorem d8_1 : decode jdk_39_method_1_code 1 = .ok (.invokespecial 1, 3) := by decide +kernel
theorem pd_0 : parseMethodDescriptor "()V" = some ⟨[], none⟩ := by decide +kernel
theorem d8_4 : decode jdk_39_method_1_code 4 = .ok (.aload_n 0, 1) := by decide +kernel
theorem d8_5 : decode jdk_39_method_1_code 5 = .ok (.iconst 0, 1) := by decide +kernel
theorem d8_6 : decode jdk_39_method_1_code 6 = .ok (.putfield 7, 3) := by decide +kernel
theorem d8_9 : decode jdk_39_method_1_code 9 = .ok (.return_, 1) := by decide +kernel
def Q_rm8 (Z : State) (a1 : Addr) (cw : Nat → Nat) (z_cs : Int32) (h0 : Heap) (n0 : Nat) (v : Option Value) (h : Heap) (L : List Loc) : Prop := v = none ∧ Fr n0 L ∧ Keep h0 h [a1] ∧ Fld Z h a1 sk17 "modCount" "I" (.int 0) ∧ Fld Z h a1 sk18 sk12 sk6 .null ∧ Fld Z h a1 sk18 "size" "I" (.int 0)
theorem rm8 (l : Launch) (Z : State) (a0 : Array Value) (hw : ∀ d ∈ tables_1, d.before a0 Z = true) (ws : List Jvm.Cond) {cw : Nat → Nat} {z_cs : Int32} (cx : Cx Z cw z_cs) (a1 : Addr) (h0 : Heap) (n0 : Nat) (O0 : Old Z n0 h0) (G0 : Exa Z h0 a1 sk18) (G1 : Fld Z h0 a1 sk17 "modCount" "I" (.int 0)) (G2 : Fld Z h0 a1 sk18 sk12 sk6 .null) (G3 : Fld Z h0 a1 sk18 "size" "I" (.int 0)) (g_a1 : n0 ≤ a1) :
    OwnMet l ym2 (Jvm.Cond.code ym2 jdk_39_method_1_code 1 none :: ws) (own_R 2 0 0 24) #[(.ref a1)] Z h0 (Q_rm8 Z a1 cw z_cs h0 n0) := by
  refine own_body (plainFor_of_name pn_8) hisR fun p e s m below meth c s₁ hx hby hml hown hnm hret hZ X0 e0 => ?_
  have N0 := Fr.nil n0
  have K0 : Keep h0 h0 [a1] := Keep.refl _ _
  have pre0 : ∀ t, Go p e below s₁ (mkF m 0 #[vR a1] []) t → Go p e below s₁ (entryFrame m #[(.ref a1)] 1) t := fun t k => castTop (ef_8_R m a1) k
  have q21 := fun t (kt : Go p e below s₁ (mkF m 1 #[vR a1] [(.ref a1)]) t) => pre0 t (by
    show Go _ _ _ _ (mkF m 0 #[vR a1] []) _
    refine XS.aloadN X0.here hx rfl (hb hby d8_0) rfl rfl ?_
    exact kt)
  obtain ⟨_, _, ⟨T22, L22, k22, n22⟩, -, X22, ⟨_, hQ22, l22, y22, z22⟩, st22⟩ := X0.specialBack hx (y := ym0) rfl hown (ow hZ hw 63 rfl) (ow hZ hw 64 rfl) (ow hZ hw 68 rfl) (by decide) (backOf (W := 0) (rm9 l Z a0 hw [] cx a1 h0 n0 O0 ) hZ (ox hw 68 rfl) (ox hw 67 rfl) (by decide) (by decide)) (g := (mkF m 1 #[vR a1] [(.ref a1)])) rfl (by rw [hml]; rfl) (Steps.refl _) (a := a1) (argsL := []) (rest := []) (lenOf pd_0 rfl) rfl own_le0 (hb hby d8_1) (fun _ _ => ⟨rfl, e0, (by decide : 0 + 0 ≤ _), (by decide : 0 + 0 ≤ _)⟩)
  dsimp only [Pt.U, Pt.locs, Pt.cells, Pt.slots] at X22 l22 y22 z22 st22 hQ22
  subst l22 y22 z22
  obtain ⟨rfl, Nq22, eq22⟩ := hQ22
  have N23 := Fr.app N0 Nq22
  have q24 := fun t (kt : Go p e below T22 (mkF m 6 #[vR a1] [(.int 0), (.ref a1)]) t) => q21 t (st22.trans (by
    show Go _ _ _ _ (mkF m 4 #[vR a1] []) _
    refine XS.aloadN X22.here hx rfl (hb hby d8_4) rfl rfl ?_
    show Go _ _ _ _ (mkF m 5 _ [(.ref a1)]) _
    refine XS.iconst X22.here hx rfl (hb hby d8_5) ?_
    exact kt))
  obtain ⟨T25, h25, X25, e25, W25, st25⟩ := putF X22 hx hZ hown (host := "") (Or.inl (ox hw 70 rfl)) Via.refl eq22 G1 G0 (Or.inl (ox hw 71 rfl)) (ox hw 52 rfl) (ty := .int) (by decide) rfl rfl (g := (mkF m 6 #[vR a1] [(.int 0), (.ref a1)])) rfl rfl (hb hby d8_6)
  have f26 : Fld Z h25 a1 sk17 "modCount" "I" (.int 0) := G1.same W25
  have N27 := Fr.snoc X25 N23 g_a1
  have O28 := O0.wr W25 g_a1
  have K29 := K0.wr W25 (Or.inl (List.mem_of_getElem? (i := 0) rfl))
  have q30 := fun t (kt : Go p e below T25 (mkF m 9 #[vR a1] []) t) => q24 t (st25 t kt)
  have f31 := (G2.other W25 (Or.inr (slot_ne (Or.inl (ox hw 74 rfl)) (Or.inl (ox hw 71 rfl)) (by decide) (t := (.array (.object sk14))) (t' := .int) (by decide) (by decide))))
  have f32 := (G3.other W25 (Or.inr (slot_ne (Or.inl (ox hw 106 rfl)) (Or.inl (ox hw 71 rfl)) (by decide) (t := .int) (t' := .int) (by decide) (by decide))))
  exact ⟨none, T25, _, _, _, _, X25, by decide, by decide, fun _ => rfl, q30, fun fs hr => X25.returnOut hx hret (hb hby d8_9) hr, by rw [e25]; exact ⟨rfl, N27, K29, f26, f31, f32⟩⟩
theorem ef_7_R (m : MethodId) (x0 : Addr) : entryFrame m #[(.ref x0)] 1 = mkF m 0 #[.val (.ref x0)] [] := by first | (simp [entryFrame, mkF, argsToLocals, Value.category]; done) | rfl
theorem pn_7 : plainName "java/util/ArrayList" = true := by first | (simp [plainName, overriddenIn]; done) | decide +kernel
theorem d7_0 : decode jdk_38_method_2_code 0 = .ok (.aload_n 0, 1) := by decide +kernel
theorem d7_1 : decode jdk_38_method_2_code 1 = .ok (.invokespecial 1, 3) := by decide +kernel
theorem d7_4 : decode jdk_38_method_2_code 4 = .ok (.aload_n 0, 1) := by decide +kernel
theorem d7_5 : decode jdk_38_method_2_code 5 = .ok (.getstatic 39, 3) := by decide +kernel
theorem d7_8 : decode jdk_38_method_2_code 8 = .ok (.putfield 9, 3) := by decide +kernel
theorem d7_11 : decode jdk_38_method_2_code 11 = .ok (.return_, 1) := by decide +kernel
def Q_rm7 (Z : State) (a1 : Addr) (cw : Nat → Nat) (z_cs : Int32) (h0 : Heap) (n0 : Nat) (v : Option Value) (h : Heap) (L : List Loc) : Prop := v = none ∧ Fr n0 L ∧ Keep h0 h [a1] ∧ Fld Z h a1 sk17 "modCount" "I" (.int 0) ∧ Fld Z h a1 sk18 sk12 sk6 (.ref (cw 13)) ∧ Fld Z h a1 sk18 "size" "I" (.int 0)
theorem rm7 (l : Launch) (Z : State) (a0 : Array Value) (hw : ∀ d ∈ tables_1, d.before a0 Z = true) (ws : List Jvm.Cond) {cw : Nat → Nat} {z_cs : Int32} (cx : Cx Z cw z_cs) (a1 : Addr) (h0 : Heap) (n0 : Nat) (O0 : Old Z n0 h0) (G0 : Exa Z h0 a1 sk18) (G1 : Fld Z h0 a1 sk17 "modCount" "I" (.int 0)) (G2 : Fld Z h0 a1 sk18 sk12 sk6 .null) (G3 : Fld Z h0 a1 sk18 "size" "I" (.int 0)) (g_a1 : n0 ≤ a1) :
    OwnMet l ym3 (Jvm.Cond.code ym3 jdk_38_method_2_code 1 none :: ws) (own_R 3 0 0 36) #[(.ref a1)] Z h0 (Q_rm7 Z a1 cw z_cs h0 n0) := by
  refine own_body (plainFor_of_name pn_7) hisR fun p e s m below meth c s₁ hx hby hml hown hnm hret hZ X0 e0 => ?_
  have N0 := Fr.nil n0
  have K0 : Keep h0 h0 [a1] := Keep.refl _ _
  have pre0 : ∀ t, Go p e below s₁ (mkF m 0 #[vR a1] []) t → Go p e below s₁ (entryFrame m #[(.ref a1)] 1) t := fun t k => castTop (ef_7_R m a1) k
  have q21 := fun t (kt : Go p e below s₁ (mkF m 1 #[vR a1] [(.ref a1)]) t) => pre0 t (by
    show Go _ _ _ _ (mkF m 0 #[vR a1] []) _
    refine XS.aloadN X0.here hx rfl (hb hby d7_0) rfl rfl ?_
    exact kt)
  obtain ⟨_, _, ⟨T22, L22, k22, n22⟩, -, X22, ⟨_, hQ22, l22, y22, z22⟩, st22⟩ := X0.specialBack hx (y := ym2) rfl hown (ow hZ hw 57 rfl) (ow hZ hw 58 rfl) (ow hZ hw 62 rfl) (by decide) (backOf (W := 0) (rm8 l Z a0 hw [] cx a1 h0 n0 O0 G0 G1 G2 G3 g_a1) hZ (ox hw 62 rfl) (ox hw 61 rfl) (by decide) (by decide)) (g := (mkF m 1 #[vR a1] [(.ref a1)])) rfl (by rw [hml]; rfl) (Steps.refl _) (a := a1) (argsL := []) (rest := []) (lenOf pd_0 rfl) rfl own_le0 (hb hby d7_1) (fun _ _ => ⟨rfl, e0, (by decide : 0 + 0 ≤ _), (by decide : 0 + 0 ≤ _)⟩)
  dsimp only [Pt.U, Pt.locs, Pt.cells, Pt.slots] at X22 l22 y22 z22 st22 hQ22
  subst l22 y22 z22
  obtain ⟨rfl, Nq22, Kq22, fq22_0, fq22_1, fq22_2⟩ := hQ22
  have N23 := Fr.app N0 Nq22
  have O24 := O0.keep Kq22 (allS g_a1 all0)
  have K25 := K0.trans Kq22 (allS (Or.inl (List.mem_of_getElem? (i := 0) rfl)) all0)
  have q26 := fun t (kt : Go p e below T22 (mkF m 5 #[vR a1] [(.ref a1)]) t) => q21 t (st22.trans (by
    show Go _ _ _ _ (mkF m 4 #[vR a1] []) _
    refine XS.aloadN X22.here hx rfl (hb hby d7_4) rfl rfl ?_
    exact kt))
  obtain ⟨T27, X27, e27, st27⟩ := getS2 X22 hx hZ hown (host := "") (Or.inl (ox hw 72 rfl)) Via.refl rfl (cx.2.2.2.2.2.2.2.2.2.2.2.2.2.2.2.2.2.2.2.2.2.2.2.2.2.2.2.2.2.1.ext O24.2) (g := (mkF m 5 #[vR a1] [(.ref a1)])) rfl (hb hby d7_5)
  have f28 := (G0.keep Kq22)
  obtain ⟨T29, h29, X29, e29, W29, st29⟩ := putF X27 hx hZ hown (host := "") (Or.inl (ox hw 73 rfl)) Via.refl e27 fq22_1 f28 (Or.inl (ox hw 74 rfl)) (ox hw 52 rfl) (ty := (.array (.object sk14))) (by decide) rfl rfl (g := (mkF m 8 #[vR a1] [(.ref (cw 13)), (.ref a1)])) rfl rfl (hb hby d7_8)
  have f30 : Fld Z h29 a1 sk18 sk12 sk6 (.ref (cw 13)) := fq22_1.same W29
  have N31 := Fr.snoc X29 N23 g_a1
  have O32 := O24.wr W29 g_a1
  have K33 := K25.wr W29 (Or.inl (List.mem_of_getElem? (i := 0) rfl))
  have q34 := fun t (kt : Go p e below T29 (mkF m 11 #[vR a1] []) t) => q26 t (st27 t (st29 t kt))
  have f35 := (fq22_0.other W29 (Or.inr (slot_ne (Or.inl (ox hw 71 rfl)) (Or.inl (ox hw 74 rfl)) (by decide) (t := .int) (t' := (.array (.object sk14))) (by decide) (by decide))))
  have f36 := (fq22_2.other W29 (Or.inr (slot_ne (Or.inl (ox hw 106 rfl)) (Or.inl (ox hw 74 rfl)) (by decide) (t := .int) (t' := (.array (.object sk14))) (by decide) (by decide))))
  exact ⟨none, T29, _, _, _, _, X29, by decide, by decide, fun _ => rfl, q34, fun fs hr => X29.returnOut hx hret (hb hby d7_11) hr, by rw [e29]; exact ⟨rfl, N31, K33, f35, f30, f36⟩⟩
theorem ef_4_RRRR (m : MethodId) (x0 : Addr) (x1 : Addr) (x2 : Addr) (x3 : Addr) : entryFrame m #[(.ref x0), (.ref x1), (.ref x2), (.ref x3)] 4 = mkF m 0 #[.val (.ref x0), .val (.ref x1), .val (.ref x2), .val (.ref x3)] [] := by first | (simp [entryFrame, mkF, argsToLocals, Value.category]; done) | rfl
theorem pn_4 : plainName "com/example/sherman/sherman/service/Verification$Outcome" = true := by first | (simp [plainName, overriddenIn]; done) | decide +kernel
theorem d4_0 : decode prog_14_method_1_code 0 = .ok (.aload_n 0, 1) := by decide +kernel
theorem d4_1 : decode prog_14_method_1_code 1 = .ok (.invokespecial 1, 3) := by decide +kernel
theorem d4_4 : decode prog_14_method_1_code 4 = .ok (.aload_n 0, 1) := by decide +kernel
theorem d4_5 : decode prog_14_method_1_code 5 = .ok (.aload_n 1, 1) := by decide +kernel
theorem d4_6 : decode prog_14_method_1_code 6 = .ok (.putfield 7, 3) := by decide +kernel
theorem d4_9 : decode prog_14_method_1_code 9 = .ok (.aload_n 0, 1) := by decide +kernel
theorem d4_10 : decode prog_14_method_1_code 10 = .ok (.aload_n 2, 1) := by decide +kernel
theorem d4_11 : decode prog_14_method_1_code 11 = .ok (.putfield 13, 3) := by decide +kernel
theorem d4_14 : decode prog_14_method_1_code 14 = .ok (.aload_n 0, 1) := by decide +kernel
theorem d4_15 : decode prog_14_method_1_code 15 = .ok (.aload_n 3, 1) := by decide +kernel
theorem d4_16 : decode prog_14_method_1_code 16 = .ok (.putfield 17, 3) := by decide +kernel
theorem d4_19 : decode prog_14_method_1_code 19 = .ok (.return_, 1) := by decide +kernel
def Q_rm4 (Z : State) (a1 : Addr) (a2 : Addr) (a3 : Addr) (a4 : Addr) (cw : Nat → Nat) (z_cs : Int32) (h0 : Heap) (n0 : Nat) (v : Option Value) (h : Heap) (L : List Loc) : Prop := v = none ∧ Fr n0 L ∧ Keep h0 h [a1] ∧ Fld Z h a1 sk9 "step" sk1 (.ref a2) ∧ Fld Z h a1 sk9 "status" sk2 (.ref a3)
theorem rm4 (l : Launch) (Z : State) (a0 : Array Value) (hw : ∀ d ∈ tables_1, d.before a0 Z = true) (ws : List Jvm.Cond) {cw : Nat → Nat} {z_cs : Int32} (cx : Cx Z cw z_cs) (a1 : Addr) (a2 : Addr) (a3 : Addr) (a4 : Addr) (h0 : Heap) (n0 : Nat) (O0 : Old Z n0 h0) (G0 : Exa Z h0 a1 sk9) (G1 : Fld Z h0 a1 sk9 "step" sk1 .null) (G2 : Fld Z h0 a1 sk9 "status" sk2 .null) (G3 : Fld Z h0 a1 sk9 "reason" sk4 .null) (g_a1 : n0 ≤ a1) :
    OwnMet l ym4 (Jvm.Cond.code ym4 prog_14_method_1_code 4 none :: ws) (own_R 2 0 0 24) #[(.ref a1), (.ref a2), (.ref a3), (.ref a4)] Z h0 (Q_rm4 Z a1 a2 a3 a4 cw z_cs h0 n0) := by
  refine own_body (plainFor_of_name pn_4) hisR fun p e s m below meth c s₁ hx hby hml hown hnm hret hZ X0 e0 => ?_
  have N0 := Fr.nil n0
  have K0 : Keep h0 h0 [a1] := Keep.refl _ _
  have pre0 : ∀ t, Go p e below s₁ (mkF m 0 #[vR a1, vR a2, vR a3, vR a4] []) t → Go p e below s₁ (entryFrame m #[(.ref a1), (.ref a2), (.ref a3), (.ref a4)] 4) t := fun t k => castTop (ef_4_RRRR m a1 a2 a3 a4) k
  have q21 := fun t (kt : Go p e below s₁ (mkF m 1 #[vR a1, vR a2, vR a3, vR a4] [(.ref a1)]) t) => pre0 t (by
    show Go _ _ _ _ (mkF m 0 #[vR a1, vR a2, vR a3, vR a4] []) _
    refine XS.aloadN X0.here hx rfl (hb hby d4_0) rfl rfl ?_
    exact kt)
  obtain ⟨_, _, ⟨T22, L22, k22, n22⟩, -, X22, ⟨_, hQ22, l22, y22, z22⟩, st22⟩ := X0.specialBack hx (y := ym1) rfl hown (ow hZ hw 33 rfl) (ow hZ hw 34 rfl) (ow hZ hw 37 rfl) (by decide) (backOf (W := 0) (rm5 l Z a0 hw [] cx a1 h0 n0 O0 ) hZ (ox hw 37 rfl) (ox hw 36 rfl) (by decide) (by decide)) (g := (mkF m 1 #[vR a1, vR a2, vR a3, vR a4] [(.ref a1)])) rfl (by rw [hml]; rfl) (Steps.refl _) (a := a1) (argsL := []) (rest := []) (lenOf pd_0 rfl) rfl own_le0 (hb hby d4_1) (fun _ _ => ⟨rfl, e0, (by decide : 0 + 0 ≤ _), (by decide : 0 + 0 ≤ _)⟩)
  dsimp only [Pt.U, Pt.locs, Pt.cells, Pt.slots] at X22 l22 y22 z22 st22 hQ22
  subst l22 y22 z22
  obtain ⟨rfl, Nq22, eq22⟩ := hQ22
  have N23 := Fr.app N0 Nq22
  have q24 := fun t (kt : Go p e below T22 (mkF m 6 #[vR a1, vR a2, vR a3, vR a4] [(.ref a2), (.ref a1)]) t) => q21 t (st22.trans (by
    show Go _ _ _ _ (mkF m 4 #[vR a1, vR a2, vR a3, vR a4] []) _
    refine XS.aloadN X22.here hx rfl (hb hby d4_4) rfl rfl ?_
    show Go _ _ _ _ (mkF m 5 _ [(.ref a1)]) _
    refine XS.aloadN X22.here hx rfl (hb hby d4_5) rfl rfl ?_
    exact kt))
  obtain ⟨T25, h25, X25, e25, W25, st25⟩ := putF X22 hx hZ hown (host := "") (Or.inl (ox hw 41 rfl)) Via.refl eq22 G1 G0 (Or.inr ⟨(ox hw 42 rfl), rfl, hnm⟩) (ox hw 22 rfl) (ty := (.object sk7)) (by decide) rfl rfl (g := (mkF m 6 #[vR a1, vR a2, vR a3, vR a4] [(.ref a2), (.ref a1)])) rfl rfl (hb hby d4_6)
  have f26 : Fld Z h25 a1 sk9 "step" sk1 (.ref a2) := G1.same W25
  have N27 := Fr.snoc X25 N23 g_a1
  have O28 := O0.wr W25 g_a1
  have K29 := K0.wr W25 (Or.inl (List.mem_of_getElem? (i := 0) rfl))
  have f30 := (G0.wr W25)
  have f31 := (G2.other W25 (Or.inr (slot_ne (Or.inr (ox hw 44 rfl)) (Or.inr (ox hw 42 rfl)) (by decide) (t := (.object sk10)) (t' := (.object sk7)) (by decide) (by decide))))
  have q32 := fun t (kt : Go p e below T25 (mkF m 11 #[vR a1, vR a2, vR a3, vR a4] [(.ref a3), (.ref a1)]) t) => q24 t (st25 t (by
    show Go _ _ _ _ (mkF m 9 #[vR a1, vR a2, vR a3, vR a4] []) _
    refine XS.aloadN X25.here hx rfl (hb hby d4_9) rfl rfl ?_
    show Go _ _ _ _ (mkF m 10 _ [(.ref a1)]) _
    refine XS.aloadN X25.here hx rfl (hb hby d4_10) rfl rfl ?_
    exact kt))
  obtain ⟨T33, h33, X33, e33, W33, st33⟩ := putF X25 hx hZ hown (host := "") (Or.inl (ox hw 43 rfl)) Via.refl e25 f31 f30 (Or.inr ⟨(ox hw 44 rfl), rfl, hnm⟩) (ox hw 22 rfl) (ty := (.object sk10)) (by decide) rfl rfl (g := (mkF m 11 #[vR a1, vR a2, vR a3, vR a4] [(.ref a3), (.ref a1)])) rfl rfl (hb hby d4_11)
  have f34 : Fld Z h33 a1 sk9 "status" sk2 (.ref a3) := f31.same W33
  have N35 := Fr.snoc X33 N27 g_a1
  have O36 := O28.wr W33 g_a1
  have K37 := K29.wr W33 (Or.inl (List.mem_of_getElem? (i := 0) rfl))
  have f38 := (f30.wr W33)
  have f39 := ((G3.other W25 (Or.inr (slot_ne (Or.inr (ox hw 46 rfl)) (Or.inr (ox hw 42 rfl)) (by decide) (t := (.object sk15)) (t' := (.object sk7)) (by decide) (by decide)))).other W33 (Or.inr (slot_ne (Or.inr (ox hw 46 rfl)) (Or.inr (ox hw 44 rfl)) (by decide) (t := (.object sk15)) (t' := (.object sk10)) (by decide) (by decide))))
  have q40 := fun t (kt : Go p e below T33 (mkF m 16 #[vR a1, vR a2, vR a3, vR a4] [(.ref a4), (.ref a1)]) t) => q32 t (st33 t (by
    show Go _ _ _ _ (mkF m 14 #[vR a1, vR a2, vR a3, vR a4] []) _
    refine XS.aloadN X33.here hx rfl (hb hby d4_14) rfl rfl ?_
    show Go _ _ _ _ (mkF m 15 _ [(.ref a1)]) _
    refine XS.aloadN X33.here hx rfl (hb hby d4_15) rfl rfl ?_
    exact kt))
  obtain ⟨T41, h41, X41, e41, W41, st41⟩ := putF X33 hx hZ hown (host := "") (Or.inl (ox hw 45 rfl)) Via.refl e33 f39 f38 (Or.inr ⟨(ox hw 46 rfl), rfl, hnm⟩) (ox hw 22 rfl) (ty := (.object sk15)) (by decide) rfl rfl (g := (mkF m 16 #[vR a1, vR a2, vR a3, vR a4] [(.ref a4), (.ref a1)])) rfl rfl (hb hby d4_16)
  have f42 : Fld Z h41 a1 sk9 "reason" sk4 (.ref a4) := f39.same W41
  have N43 := Fr.snoc X41 N35 g_a1
  have O44 := O36.wr W41 g_a1
  have K45 := K37.wr W41 (Or.inl (List.mem_of_getElem? (i := 0) rfl))
  have q46 := fun t (kt : Go p e below T41 (mkF m 19 #[vR a1, vR a2, vR a3, vR a4] []) t) => q40 t (st41 t kt)
  have f47 := ((f26.other W33 (Or.inr (slot_ne (Or.inr (ox hw 42 rfl)) (Or.inr (ox hw 44 rfl)) (by decide) (t := (.object sk7)) (t' := (.object sk10)) (by decide) (by decide)))).other W41 (Or.inr (slot_ne (Or.inr (ox hw 42 rfl)) (Or.inr (ox hw 46 rfl)) (by decide) (t := (.object sk7)) (t' := (.object sk15)) (by decide) (by decide))))
  have f48 := (f34.other W41 (Or.inr (slot_ne (Or.inr (ox hw 44 rfl)) (Or.inr (ox hw 46 rfl)) (by decide) (t := (.object sk10)) (t' := (.object sk15)) (by decide) (by decide))))
  exact ⟨none, T41, _, _, _, _, X41, by decide, by decide, fun _ => rfl, q46, fun fs hr => X41.returnOut hx hret (hb hby d4_19) hr, by rw [e41]; exact ⟨rfl, N43, K45, f47, f48⟩⟩
def own_status (x : Int32) (a b d : Addr) : Addr := if x = (0 : Int32) then a else if x = (1 : Int32) then b else d
def own_step (x : Int32) (a0 a1 a2 a3 a4 a5 a6 a7 a8 a9 : Addr) : Addr := if x = (0 : Int32) then a0 else if x = (1 : Int32) then a1 else if x = (2 : Int32) then a2 else if x = (3 : Int32) then a3 else if x = (4 : Int32) then a4 else if x = (5 : Int32) then a5 else if x = (6 : Int32) then a6 else if x = (7 : Int32) then a7 else if x = (8 : Int32) then a8 else a9
def own_find (f : Addr) : List (Addr × Addr) → Value
  | [] => .null
  | (s, p) :: r => if s = f then .ref p else own_find f r
def own_sts (cw : Nat → Nat) (p : Int32) : Addr := (own_status (((p &&& (2147483647 : Int32)) / (10 : Int32)) % (3 : Int32)) (cw 0) (cw 6) (cw 1))
def own_stp (cw : Nat → Nat) (p : Int32) : Addr := (own_step ((p &&& (2147483647 : Int32)) % (10 : Int32)) (cw 7) (cw 4) (cw 3) (cw 2) (cw 5) (cw 8) (cw 9) (cw 12) (cw 11) (cw 10))
theorem ef_2_I (m : MethodId) (x0 : Int32) : entryFrame m #[(.int x0)] 2 = mkF m 0 #[.val (.int x0), .unset] [] := by first | (simp [entryFrame, mkF, argsToLocals, Value.category]; done) | rfl
theorem pn_2 : plainName "com/example/sherman/sherman/service/VerificationRefusedAtPinLaw" = true := by first | (simp [plainName, overriddenIn]; done) | decide +kernel
theorem d2_0 : decode method_3_code 0 = .ok (.iload_n 0, 1) := by decide +kernel
theorem d2_1 : decode method_3_code 1 = .ok (.ldc 7, 2) := by decide +kernel
theorem d2_3 : decode method_3_code 3 = .ok (.iand, 1) := by decide +kernel
theorem d2_4 : decode method_3_code 4 = .ok (.bipush 10, 2) := by decide +kernel
theorem d2_6 : decode method_3_code 6 = .ok (.idiv, 1) := by decide +kernel
theorem d2_7 : decode method_3_code 7 = .ok (.iconst 3, 1) := by decide +kernel
theorem d2_8 : decode method_3_code 8 = .ok (.irem, 1) := by decide +kernel
theorem d2_9 : decode method_3_code 9 = .ok (.istore_n 1, 1) := by decide +kernel
theorem d2_10 : decode method_3_code 10 = .ok (.iload_n 1, 1) := by decide +kernel
theorem d2_11 : decode method_3_code 11 = .ok (.ifCond .ne 7, 3) := by decide +kernel
theorem d2_14 : decode method_3_code 14 = .ok (.getstatic 41, 3) := by decide +kernel
theorem d2_17 : decode method_3_code 17 = .ok (.areturn, 1) := by decide +kernel
theorem d2_18 : decode method_3_code 18 = .ok (.iload_n 1, 1) := by decide +kernel
theorem d2_19 : decode method_3_code 19 = .ok (.iconst 1, 1) := by decide +kernel
theorem d2_20 : decode method_3_code 20 = .ok (.if_icmp .ne 7, 3) := by decide +kernel
theorem d2_23 : decode method_3_code 23 = .ok (.getstatic 47, 3) := by decide +kernel
theorem d2_26 : decode method_3_code 26 = .ok (.areturn, 1) := by decide +kernel
theorem d2_27 : decode method_3_code 27 = .ok (.getstatic 50, 3) := by decide +kernel
theorem d2_30 : decode method_3_code 30 = .ok (.areturn, 1) := by decide +kernel
def Q_rm2 (Z : State) (p1 : Int32) (cw : Nat → Nat) (z_cs : Int32) (h0 : Heap) (n0 : Nat) (v : Option Value) (h : Heap) (L : List Loc) : Prop := v = some (.ref (own_sts cw p1)) ∧ Fr n0 L ∧ h = h0
theorem rm2 (l : Launch) (Z : State) (a0 : Array Value) (hw : ∀ d ∈ tables_1, d.before a0 Z = true) (ws : List Jvm.Cond) {cw : Nat → Nat} {z_cs : Int32} (cx : Cx Z cw z_cs) (p1 : Int32) (h0 : Heap) (n0 : Nat) (O0 : Old Z n0 h0) :
    OwnMet l ym5 (Jvm.Cond.code ym5 method_3_code 2 (some (.object sk10)) :: ws) (own_R 0 0 0 0) #[(.int p1)] Z h0 (Q_rm2 Z p1 cw z_cs h0 n0) := by
  refine own_body (plainFor_of_name pn_2) hisR fun p e s m below meth c s₁ hx hby hml hown hnm hret hZ X0 e0 => ?_
  have N0 := Fr.nil n0
  have pre0 : ∀ t, Go p e below s₁ (mkF m 0 #[vI p1, vU] []) t → Go p e below s₁ (entryFrame m #[(.int p1)] 2) t := fun t k => castTop (ef_2_I m p1) k
  have q21 := fun t (kt : Go p e below s₁ (mkF m 11 #[vI p1, vI (((p1 &&& (2147483647 : Int32)) / (10 : Int32)) % (3 : Int32))] [(.int (((p1 &&& (2147483647 : Int32)) / (10 : Int32)) % (3 : Int32)))]) t) => pre0 t (by
    show Go _ _ _ _ (mkF m 0 #[vI p1, vU] []) _
    refine XS.iloadN X0.here hx rfl (hb hby d2_0) rfl ?_
    show Go _ _ _ _ (mkF m 1 _ [(.int p1)]) _
    refine X0.ldcInt hx hown (ow hZ hw 0 rfl) (g := (mkF m 1 #[vI p1, vU] [(.int p1)])) rfl (hb hby d2_1) _ ?_
    show Go _ _ _ _ (mkF m 3 _ [(.int 2147483647), (.int p1)]) _
    refine XS.iand X0.here hx rfl (hb hby d2_3) rfl ?_
    show Go _ _ _ _ (mkF m 4 _ [(.int (p1 &&& (2147483647 : Int32)))]) _
    refine XS.bipush X0.here hx rfl (hb hby d2_4) ?_
    show Go _ _ _ _ (mkF m 6 _ [(.int 10), (.int (p1 &&& (2147483647 : Int32)))]) _
    refine XS.idiv X0.here hx rfl (hb hby d2_6) rfl (by decide : ¬ ((10 : Int32) = (0 : Int32))) ?_
    show Go _ _ _ _ (mkF m 7 _ [(.int ((p1 &&& (2147483647 : Int32)) / (10 : Int32)))]) _
    refine XS.iconst X0.here hx rfl (hb hby d2_7) ?_
    show Go _ _ _ _ (mkF m 8 _ [(.int 3), (.int ((p1 &&& (2147483647 : Int32)) / (10 : Int32)))]) _
    refine iremM (g := (mkF m 8 #[vI p1, vU] [(.int 3), (.int ((p1 &&& (2147483647 : Int32)) / (10 : Int32)))])) X0 hx rfl (hb hby d2_8) rfl (by decide : ¬ ((3 : Int32) = (0 : Int32))) ?_
    show Go _ _ _ _ (mkF m 9 _ [(.int (((p1 &&& (2147483647 : Int32)) / (10 : Int32)) % (3 : Int32)))]) _
    refine XS.istoreN X0.here hx rfl (hb hby d2_9) rfl (l' := #[vI p1, vI (((p1 &&& (2147483647 : Int32)) / (10 : Int32)) % (3 : Int32))]) rfl ?_
    show Go _ _ _ _ (mkF m 10 #[vI p1, vI (((p1 &&& (2147483647 : Int32)) / (10 : Int32)) % (3 : Int32))] []) _
    refine XS.iloadN X0.here hx rfl (hb hby d2_10) rfl ?_
    exact kt)
  by_cases hc22 : (((p1 &&& (2147483647 : Int32)) / (10 : Int32)) % (3 : Int32)) = (0 : Int32)
  · have q23 := fun t (kt : Go p e below s₁ (mkF m 14 #[vI p1, vI (((p1 &&& (2147483647 : Int32)) / (10 : Int32)) % (3 : Int32))] []) t) => q21 t (by
      show Go _ _ _ _ (mkF m 11 #[vI p1, vI (((p1 &&& (2147483647 : Int32)) / (10 : Int32)) % (3 : Int32))] [(.int (((p1 &&& (2147483647 : Int32)) / (10 : Int32)) % (3 : Int32)))]) _
      refine XS.ifNo X0.here hx rfl (hb hby d2_11) rfl ((if0 _ _).trans (teq hc22).2) ?_
      exact kt)
    obtain ⟨T24, X24, e24, st24⟩ := getS2 X0 hx hZ hown (host := "") (Or.inl (ox hw 8 rfl)) Via.refl e0 (cx.1.ext O0.2) (g := (mkF m 14 #[vI p1, vI (((p1 &&& (2147483647 : Int32)) / (10 : Int32)) % (3 : Int32))] [])) rfl (hb hby d2_14)
    have q25 := fun t (kt : Go p e below T24 (mkF m 17 #[vI p1, vI (((p1 &&& (2147483647 : Int32)) / (10 : Int32)) % (3 : Int32))] [(.ref (cw 0))]) t) => q23 t (st24 t kt)
    exact ⟨some (.ref (cw 0)), T24, _, _, _, _, X24, by decide, by decide, nofun, q25, fun fs hr => retOut X24 hx hret rfl (o4 ⟨rfl, rfl, rfl⟩) (hb hby d2_17) hr, by rw [e24]; exact ⟨(by simp [own_sts, own_status, hc22]), N0, rfl⟩⟩
  · have q26 := fun t (kt : Go p e below s₁ (mkF m 20 #[vI p1, vI (((p1 &&& (2147483647 : Int32)) / (10 : Int32)) % (3 : Int32))] [(.int 1), (.int (((p1 &&& (2147483647 : Int32)) / (10 : Int32)) % (3 : Int32)))]) t) => q21 t (by
      show Go _ _ _ _ (mkF m 11 #[vI p1, vI (((p1 &&& (2147483647 : Int32)) / (10 : Int32)) % (3 : Int32))] [(.int (((p1 &&& (2147483647 : Int32)) / (10 : Int32)) % (3 : Int32)))]) _
      refine XS.ifYes X0.here hx rfl (pc0 := 11) (pc' := 18) rfl (hb hby d2_11) rfl ((if0 _ _).trans (feq hc22).2) (by decide) (by decide) ?_
      show Go _ _ _ _ (mkF m 18 _ []) _
      refine XS.iloadN X0.here hx rfl (hb hby d2_18) rfl ?_
      show Go _ _ _ _ (mkF m 19 _ [(.int (((p1 &&& (2147483647 : Int32)) / (10 : Int32)) % (3 : Int32)))]) _
      refine XS.iconst X0.here hx rfl (hb hby d2_19) ?_
      exact kt)
    by_cases hc27 : (((p1 &&& (2147483647 : Int32)) / (10 : Int32)) % (3 : Int32)) = (1 : Int32)
    · have q28 := fun t (kt : Go p e below s₁ (mkF m 23 #[vI p1, vI (((p1 &&& (2147483647 : Int32)) / (10 : Int32)) % (3 : Int32))] []) t) => q26 t (by
        show Go _ _ _ _ (mkF m 20 #[vI p1, vI (((p1 &&& (2147483647 : Int32)) / (10 : Int32)) % (3 : Int32))] [(.int 1), (.int (((p1 &&& (2147483647 : Int32)) / (10 : Int32)) % (3 : Int32)))]) _
        refine XS.icmpNo X0.here hx rfl (hb hby d2_20) rfl (teq hc27).2 ?_
        exact kt)
      obtain ⟨T29, X29, e29, st29⟩ := getS2 X0 hx hZ hown (host := "") (Or.inl (ox hw 178 rfl)) Via.refl e0 (cx.2.2.2.2.2.2.2.2.2.2.2.2.1.ext O0.2) (g := (mkF m 23 #[vI p1, vI (((p1 &&& (2147483647 : Int32)) / (10 : Int32)) % (3 : Int32))] [])) rfl (hb hby d2_23)
      have q30 := fun t (kt : Go p e below T29 (mkF m 26 #[vI p1, vI (((p1 &&& (2147483647 : Int32)) / (10 : Int32)) % (3 : Int32))] [(.ref (cw 6))]) t) => q28 t (st29 t kt)
      exact ⟨some (.ref (cw 6)), T29, _, _, _, _, X29, by decide, by decide, nofun, q30, fun fs hr => retOut X29 hx hret rfl (o4 ⟨rfl, rfl, rfl⟩) (hb hby d2_26) hr, by rw [e29]; exact ⟨(by simp [own_sts, own_status, hc22, hc27]), N0, rfl⟩⟩
    · have q31 := fun t (kt : Go p e below s₁ (mkF m 27 #[vI p1, vI (((p1 &&& (2147483647 : Int32)) / (10 : Int32)) % (3 : Int32))] []) t) => q26 t (by
        show Go _ _ _ _ (mkF m 20 #[vI p1, vI (((p1 &&& (2147483647 : Int32)) / (10 : Int32)) % (3 : Int32))] [(.int 1), (.int (((p1 &&& (2147483647 : Int32)) / (10 : Int32)) % (3 : Int32)))]) _
        refine XS.icmpYes X0.here hx rfl (pc0 := 20) (pc' := 27) rfl (hb hby d2_20) rfl (feq hc27).2 (by decide) (by decide) ?_
        exact kt)
      obtain ⟨T32, X32, e32, st32⟩ := getS2 X0 hx hZ hown (host := "") (Or.inl (ox hw 19 rfl)) Via.refl e0 (cx.2.2.1.ext O0.2) (g := (mkF m 27 #[vI p1, vI (((p1 &&& (2147483647 : Int32)) / (10 : Int32)) % (3 : Int32))] [])) rfl (hb hby d2_27)
      have q33 := fun t (kt : Go p e below T32 (mkF m 30 #[vI p1, vI (((p1 &&& (2147483647 : Int32)) / (10 : Int32)) % (3 : Int32))] [(.ref (cw 1))]) t) => q31 t (st32 t kt)
      exact ⟨some (.ref (cw 1)), T32, _, _, _, _, X32, by decide, by decide, nofun, q33, fun fs hr => retOut X32 hx hret rfl (o4 ⟨rfl, rfl, rfl⟩) (hb hby d2_30) hr, by rw [e32]; exact ⟨(by simp [own_sts, own_status, hc22, hc27]), N0, rfl⟩⟩
theorem ef_3_I (m : MethodId) (x0 : Int32) : entryFrame m #[(.int x0)] 2 = mkF m 0 #[.val (.int x0), .unset] [] := by first | (simp [entryFrame, mkF, argsToLocals, Value.category]; done) | rfl
theorem pn_3 : plainName "com/example/sherman/sherman/service/VerificationRefusedAtPinLaw" = true := by first | (simp [plainName, overriddenIn]; done) | decide +kernel
theorem d3_0 : decode method_2_code 0 = .ok (.iload_n 0, 1) := by decide +kernel
theorem d3_1 : decode method_2_code 1 = .ok (.ldc 7, 2) := by decide +kernel
theorem d3_3 : decode method_2_code 3 = .ok (.iand, 1) := by decide +kernel
theorem d3_4 : decode method_2_code 4 = .ok (.bipush 10, 2) := by decide +kernel
theorem d3_6 : decode method_2_code 6 = .ok (.irem, 1) := by decide +kernel
theorem d3_7 : decode method_2_code 7 = .ok (.istore_n 1, 1) := by decide +kernel
theorem d3_8 : decode method_2_code 8 = .ok (.iload_n 1, 1) := by decide +kernel
theorem d3_9 : decode method_2_code 9 = .ok (.ifCond .ne 7, 3) := by decide +kernel
theorem d3_12 : decode method_2_code 12 = .ok (.getstatic 8, 3) := by decide +kernel
theorem d3_15 : decode method_2_code 15 = .ok (.areturn, 1) := by decide +kernel
theorem d3_16 : decode method_2_code 16 = .ok (.iload_n 1, 1) := by decide +kernel
theorem d3_17 : decode method_2_code 17 = .ok (.iconst 1, 1) := by decide +kernel
theorem d3_18 : decode method_2_code 18 = .ok (.if_icmp .ne 7, 3) := by decide +kernel
theorem d3_21 : decode method_2_code 21 = .ok (.getstatic 14, 3) := by decide +kernel
theorem d3_24 : decode method_2_code 24 = .ok (.areturn, 1) := by decide +kernel
theorem d3_25 : decode method_2_code 25 = .ok (.iload_n 1, 1) := by decide +kernel
theorem d3_26 : decode method_2_code 26 = .ok (.iconst 2, 1) := by decide +kernel
theorem d3_27 : decode method_2_code 27 = .ok (.if_icmp .ne 7, 3) := by decide +kernel
theorem d3_30 : decode method_2_code 30 = .ok (.getstatic 17, 3) := by decide +kernel
theorem d3_33 : decode method_2_code 33 = .ok (.areturn, 1) := by decide +kernel
theorem d3_34 : decode method_2_code 34 = .ok (.iload_n 1, 1) := by decide +kernel
theorem d3_35 : decode method_2_code 35 = .ok (.iconst 3, 1) := by decide +kernel
theorem d3_36 : decode method_2_code 36 = .ok (.if_icmp .ne 7, 3) := by decide +kernel
theorem d3_39 : decode method_2_code 39 = .ok (.getstatic 20, 3) := by decide +kernel
theorem d3_42 : decode method_2_code 42 = .ok (.areturn, 1) := by decide +kernel
theorem d3_43 : decode method_2_code 43 = .ok (.iload_n 1, 1) := by decide +kernel
theorem d3_44 : decode method_2_code 44 = .ok (.iconst 4, 1) := by decide +kernel
theorem d3_45 : decode method_2_code 45 = .ok (.if_icmp .ne 7, 3) := by decide +kernel
theorem d3_48 : decode method_2_code 48 = .ok (.getstatic 23, 3) := by decide +kernel
theorem d3_51 : decode method_2_code 51 = .ok (.areturn, 1) := by decide +kernel
theorem d3_52 : decode method_2_code 52 = .ok (.iload_n 1, 1) := by decide +kernel
theorem d3_53 : decode method_2_code 53 = .ok (.iconst 5, 1) := by decide +kernel
theorem d3_54 : decode method_2_code 54 = .ok (.if_icmp .ne 7, 3) := by decide +kernel
theorem d3_57 : decode method_2_code 57 = .ok (.getstatic 26, 3) := by decide +kernel
theorem d3_60 : decode method_2_code 60 = .ok (.areturn, 1) := by decide +kernel
theorem d3_61 : decode method_2_code 61 = .ok (.iload_n 1, 1) := by decide +kernel
theorem d3_62 : decode method_2_code 62 = .ok (.bipush 6, 2) := by decide +kernel
theorem d3_64 : decode method_2_code 64 = .ok (.if_icmp .ne 7, 3) := by decide +kernel
theorem d3_67 : decode method_2_code 67 = .ok (.getstatic 29, 3) := by decide +kernel
theorem d3_70 : decode method_2_code 70 = .ok (.areturn, 1) := by decide +kernel
theorem d3_71 : decode method_2_code 71 = .ok (.iload_n 1, 1) := by decide +kernel
theorem d3_72 : decode method_2_code 72 = .ok (.bipush 7, 2) := by decide +kernel
theorem d3_74 : decode method_2_code 74 = .ok (.if_icmp .ne 7, 3) := by decide +kernel
theorem d3_77 : decode method_2_code 77 = .ok (.getstatic 32, 3) := by decide +kernel
theorem d3_80 : decode method_2_code 80 = .ok (.areturn, 1) := by decide +kernel
theorem d3_81 : decode method_2_code 81 = .ok (.iload_n 1, 1) := by decide +kernel
theorem d3_82 : decode method_2_code 82 = .ok (.bipush 8, 2) := by decide +kernel
theorem d3_84 : decode method_2_code 84 = .ok (.if_icmp .ne 7, 3) := by decide +kernel
theorem d3_87 : decode method_2_code 87 = .ok (.getstatic 35, 3) := by decide +kernel
theorem d3_90 : decode method_2_code 90 = .ok (.areturn, 1) := by decide +kernel
theorem d3_91 : decode method_2_code 91 = .ok (.getstatic 38, 3) := by decide +kernel
theorem d3_94 : decode method_2_code 94 = .ok (.areturn, 1) := by decide +kernel
def Q_rm3 (Z : State) (p1 : Int32) (cw : Nat → Nat) (z_cs : Int32) (h0 : Heap) (n0 : Nat) (v : Option Value) (h : Heap) (L : List Loc) : Prop := v = some (.ref (own_stp cw p1)) ∧ Fr n0 L ∧ h = h0
theorem rm3 (l : Launch) (Z : State) (a0 : Array Value) (hw : ∀ d ∈ tables_1, d.before a0 Z = true) (ws : List Jvm.Cond) {cw : Nat → Nat} {z_cs : Int32} (cx : Cx Z cw z_cs) (p1 : Int32) (h0 : Heap) (n0 : Nat) (O0 : Old Z n0 h0) :
    OwnMet l ym6 (Jvm.Cond.code ym6 method_2_code 2 (some (.object sk7)) :: ws) (own_R 0 0 0 0) #[(.int p1)] Z h0 (Q_rm3 Z p1 cw z_cs h0 n0) := by
  refine own_body (plainFor_of_name pn_3) hisR fun p e s m below meth c s₁ hx hby hml hown hnm hret hZ X0 e0 => ?_
  have N0 := Fr.nil n0
  have pre0 : ∀ t, Go p e below s₁ (mkF m 0 #[vI p1, vU] []) t → Go p e below s₁ (entryFrame m #[(.int p1)] 2) t := fun t k => castTop (ef_3_I m p1) k
  have q21 := fun t (kt : Go p e below s₁ (mkF m 9 #[vI p1, vI ((p1 &&& (2147483647 : Int32)) % (10 : Int32))] [(.int ((p1 &&& (2147483647 : Int32)) % (10 : Int32)))]) t) => pre0 t (by
    show Go _ _ _ _ (mkF m 0 #[vI p1, vU] []) _
    refine XS.iloadN X0.here hx rfl (hb hby d3_0) rfl ?_
    show Go _ _ _ _ (mkF m 1 _ [(.int p1)]) _
    refine X0.ldcInt hx hown (ow hZ hw 0 rfl) (g := (mkF m 1 #[vI p1, vU] [(.int p1)])) rfl (hb hby d3_1) _ ?_
    show Go _ _ _ _ (mkF m 3 _ [(.int 2147483647), (.int p1)]) _
    refine XS.iand X0.here hx rfl (hb hby d3_3) rfl ?_
    show Go _ _ _ _ (mkF m 4 _ [(.int (p1 &&& (2147483647 : Int32)))]) _
    refine XS.bipush X0.here hx rfl (hb hby d3_4) ?_
    show Go _ _ _ _ (mkF m 6 _ [(.int 10), (.int (p1 &&& (2147483647 : Int32)))]) _
    refine iremM (g := (mkF m 6 #[vI p1, vU] [(.int 10), (.int (p1 &&& (2147483647 : Int32)))])) X0 hx rfl (hb hby d3_6) rfl (by decide : ¬ ((10 : Int32) = (0 : Int32))) ?_
    show Go _ _ _ _ (mkF m 7 _ [(.int ((p1 &&& (2147483647 : Int32)) % (10 : Int32)))]) _
    refine XS.istoreN X0.here hx rfl (hb hby d3_7) rfl (l' := #[vI p1, vI ((p1 &&& (2147483647 : Int32)) % (10 : Int32))]) rfl ?_
    show Go _ _ _ _ (mkF m 8 #[vI p1, vI ((p1 &&& (2147483647 : Int32)) % (10 : Int32))] []) _
    refine XS.iloadN X0.here hx rfl (hb hby d3_8) rfl ?_
    exact kt)
  by_cases hc22 : ((p1 &&& (2147483647 : Int32)) % (10 : Int32)) = (0 : Int32)
  · have q23 := fun t (kt : Go p e below s₁ (mkF m 12 #[vI p1, vI ((p1 &&& (2147483647 : Int32)) % (10 : Int32))] []) t) => q21 t (by
      show Go _ _ _ _ (mkF m 9 #[vI p1, vI ((p1 &&& (2147483647 : Int32)) % (10 : Int32))] [(.int ((p1 &&& (2147483647 : Int32)) % (10 : Int32)))]) _
      refine XS.ifNo X0.here hx rfl (hb hby d3_9) rfl ((if0 _ _).trans (teq hc22).2) ?_
      exact kt)
    obtain ⟨T24, X24, e24, st24⟩ := getS2 X0 hx hZ hown (host := "") (Or.inl (ox hw 180 rfl)) Via.refl e0 (cx.2.2.2.2.2.2.2.2.2.2.2.2.2.2.1.ext O0.2) (g := (mkF m 12 #[vI p1, vI ((p1 &&& (2147483647 : Int32)) % (10 : Int32))] [])) rfl (hb hby d3_12)
    have q25 := fun t (kt : Go p e below T24 (mkF m 15 #[vI p1, vI ((p1 &&& (2147483647 : Int32)) % (10 : Int32))] [(.ref (cw 7))]) t) => q23 t (st24 t kt)
    exact ⟨some (.ref (cw 7)), T24, _, _, _, _, X24, by decide, by decide, nofun, q25, fun fs hr => retOut X24 hx hret rfl (o4 ⟨rfl, rfl, rfl⟩) (hb hby d3_15) hr, by rw [e24]; exact ⟨(by simp [own_stp, own_step, hc22]), N0, rfl⟩⟩
  · have q26 := fun t (kt : Go p e below s₁ (mkF m 18 #[vI p1, vI ((p1 &&& (2147483647 : Int32)) % (10 : Int32))] [(.int 1), (.int ((p1 &&& (2147483647 : Int32)) % (10 : Int32)))]) t) => q21 t (by
      show Go _ _ _ _ (mkF m 9 #[vI p1, vI ((p1 &&& (2147483647 : Int32)) % (10 : Int32))] [(.int ((p1 &&& (2147483647 : Int32)) % (10 : Int32)))]) _
      refine XS.ifYes X0.here hx rfl (pc0 := 9) (pc' := 16) rfl (hb hby d3_9) rfl ((if0 _ _).trans (feq hc22).2) (by decide) (by decide) ?_
      show Go _ _ _ _ (mkF m 16 _ []) _
      refine XS.iloadN X0.here hx rfl (hb hby d3_16) rfl ?_
      show Go _ _ _ _ (mkF m 17 _ [(.int ((p1 &&& (2147483647 : Int32)) % (10 : Int32)))]) _
      refine XS.iconst X0.here hx rfl (hb hby d3_17) ?_
      exact kt)
    by_cases hc27 : ((p1 &&& (2147483647 : Int32)) % (10 : Int32)) = (1 : Int32)
    · have q28 := fun t (kt : Go p e below s₁ (mkF m 21 #[vI p1, vI ((p1 &&& (2147483647 : Int32)) % (10 : Int32))] []) t) => q26 t (by
        show Go _ _ _ _ (mkF m 18 #[vI p1, vI ((p1 &&& (2147483647 : Int32)) % (10 : Int32))] [(.int 1), (.int ((p1 &&& (2147483647 : Int32)) % (10 : Int32)))]) _
        refine XS.icmpNo X0.here hx rfl (hb hby d3_18) rfl (teq hc27).2 ?_
        exact kt)
      obtain ⟨T29, X29, e29, st29⟩ := getS2 X0 hx hZ hown (host := "") (Or.inl (ox hw 49 rfl)) Via.refl e0 (cx.2.2.2.2.2.2.2.2.1.ext O0.2) (g := (mkF m 21 #[vI p1, vI ((p1 &&& (2147483647 : Int32)) % (10 : Int32))] [])) rfl (hb hby d3_21)
      have q30 := fun t (kt : Go p e below T29 (mkF m 24 #[vI p1, vI ((p1 &&& (2147483647 : Int32)) % (10 : Int32))] [(.ref (cw 4))]) t) => q28 t (st29 t kt)
      exact ⟨some (.ref (cw 4)), T29, _, _, _, _, X29, by decide, by decide, nofun, q30, fun fs hr => retOut X29 hx hret rfl (o4 ⟨rfl, rfl, rfl⟩) (hb hby d3_24) hr, by rw [e29]; exact ⟨(by simp [own_stp, own_step, hc22, hc27]), N0, rfl⟩⟩
    · have q31 := fun t (kt : Go p e below s₁ (mkF m 27 #[vI p1, vI ((p1 &&& (2147483647 : Int32)) % (10 : Int32))] [(.int 2), (.int ((p1 &&& (2147483647 : Int32)) % (10 : Int32)))]) t) => q26 t (by
        show Go _ _ _ _ (mkF m 18 #[vI p1, vI ((p1 &&& (2147483647 : Int32)) % (10 : Int32))] [(.int 1), (.int ((p1 &&& (2147483647 : Int32)) % (10 : Int32)))]) _
        refine XS.icmpYes X0.here hx rfl (pc0 := 18) (pc' := 25) rfl (hb hby d3_18) rfl (feq hc27).2 (by decide) (by decide) ?_
        show Go _ _ _ _ (mkF m 25 _ []) _
        refine XS.iloadN X0.here hx rfl (hb hby d3_25) rfl ?_
        show Go _ _ _ _ (mkF m 26 _ [(.int ((p1 &&& (2147483647 : Int32)) % (10 : Int32)))]) _
        refine XS.iconst X0.here hx rfl (hb hby d3_26) ?_
        exact kt)
      by_cases hc32 : ((p1 &&& (2147483647 : Int32)) % (10 : Int32)) = (2 : Int32)
      · have q33 := fun t (kt : Go p e below s₁ (mkF m 30 #[vI p1, vI ((p1 &&& (2147483647 : Int32)) % (10 : Int32))] []) t) => q31 t (by
          show Go _ _ _ _ (mkF m 27 #[vI p1, vI ((p1 &&& (2147483647 : Int32)) % (10 : Int32))] [(.int 2), (.int ((p1 &&& (2147483647 : Int32)) % (10 : Int32)))]) _
          refine XS.icmpNo X0.here hx rfl (hb hby d3_27) rfl (teq hc32).2 ?_
          exact kt)
        obtain ⟨T34, X34, e34, st34⟩ := getS2 X0 hx hZ hown (host := "") (Or.inl (ox hw 47 rfl)) Via.refl e0 (cx.2.2.2.2.2.2.1.ext O0.2) (g := (mkF m 30 #[vI p1, vI ((p1 &&& (2147483647 : Int32)) % (10 : Int32))] [])) rfl (hb hby d3_30)
        have q35 := fun t (kt : Go p e below T34 (mkF m 33 #[vI p1, vI ((p1 &&& (2147483647 : Int32)) % (10 : Int32))] [(.ref (cw 3))]) t) => q33 t (st34 t kt)
        exact ⟨some (.ref (cw 3)), T34, _, _, _, _, X34, by decide, by decide, nofun, q35, fun fs hr => retOut X34 hx hret rfl (o4 ⟨rfl, rfl, rfl⟩) (hb hby d3_33) hr, by rw [e34]; exact ⟨(by simp [own_stp, own_step, hc22, hc27, hc32]), N0, rfl⟩⟩
      · have q36 := fun t (kt : Go p e below s₁ (mkF m 36 #[vI p1, vI ((p1 &&& (2147483647 : Int32)) % (10 : Int32))] [(.int 3), (.int ((p1 &&& (2147483647 : Int32)) % (10 : Int32)))]) t) => q31 t (by
          show Go _ _ _ _ (mkF m 27 #[vI p1, vI ((p1 &&& (2147483647 : Int32)) % (10 : Int32))] [(.int 2), (.int ((p1 &&& (2147483647 : Int32)) % (10 : Int32)))]) _
          refine XS.icmpYes X0.here hx rfl (pc0 := 27) (pc' := 34) rfl (hb hby d3_27) rfl (feq hc32).2 (by decide) (by decide) ?_
          show Go _ _ _ _ (mkF m 34 _ []) _
          refine XS.iloadN X0.here hx rfl (hb hby d3_34) rfl ?_
          show Go _ _ _ _ (mkF m 35 _ [(.int ((p1 &&& (2147483647 : Int32)) % (10 : Int32)))]) _
          refine XS.iconst X0.here hx rfl (hb hby d3_35) ?_
          exact kt)
        by_cases hc37 : ((p1 &&& (2147483647 : Int32)) % (10 : Int32)) = (3 : Int32)
        · have q38 := fun t (kt : Go p e below s₁ (mkF m 39 #[vI p1, vI ((p1 &&& (2147483647 : Int32)) % (10 : Int32))] []) t) => q36 t (by
            show Go _ _ _ _ (mkF m 36 #[vI p1, vI ((p1 &&& (2147483647 : Int32)) % (10 : Int32))] [(.int 3), (.int ((p1 &&& (2147483647 : Int32)) % (10 : Int32)))]) _
            refine XS.icmpNo X0.here hx rfl (hb hby d3_36) rfl (teq hc37).2 ?_
            exact kt)
          obtain ⟨T39, X39, e39, st39⟩ := getS2 X0 hx hZ hown (host := "") (Or.inl (ox hw 27 rfl)) Via.refl e0 (cx.2.2.2.2.1.ext O0.2) (g := (mkF m 39 #[vI p1, vI ((p1 &&& (2147483647 : Int32)) % (10 : Int32))] [])) rfl (hb hby d3_39)
          have q40 := fun t (kt : Go p e below T39 (mkF m 42 #[vI p1, vI ((p1 &&& (2147483647 : Int32)) % (10 : Int32))] [(.ref (cw 2))]) t) => q38 t (st39 t kt)
          exact ⟨some (.ref (cw 2)), T39, _, _, _, _, X39, by decide, by decide, nofun, q40, fun fs hr => retOut X39 hx hret rfl (o4 ⟨rfl, rfl, rfl⟩) (hb hby d3_42) hr, by rw [e39]; exact ⟨(by simp [own_stp, own_step, hc22, hc27, hc32, hc37]), N0, rfl⟩⟩
        · have q41 := fun t (kt : Go p e below s₁ (mkF m 45 #[vI p1, vI ((p1 &&& (2147483647 : Int32)) % (10 : Int32))] [(.int 4), (.int ((p1 &&& (2147483647 : Int32)) % (10 : Int32)))]) t) => q36 t (by
            show Go _ _ _ _ (mkF m 36 #[vI p1, vI ((p1 &&& (2147483647 : Int32)) % (10 : Int32))] [(.int 3), (.int ((p1 &&& (2147483647 : Int32)) % (10 : Int32)))]) _
            refine XS.icmpYes X0.here hx rfl (pc0 := 36) (pc' := 43) rfl (hb hby d3_36) rfl (feq hc37).2 (by decide) (by decide) ?_
            show Go _ _ _ _ (mkF m 43 _ []) _
            refine XS.iloadN X0.here hx rfl (hb hby d3_43) rfl ?_
            show Go _ _ _ _ (mkF m 44 _ [(.int ((p1 &&& (2147483647 : Int32)) % (10 : Int32)))]) _
            refine XS.iconst X0.here hx rfl (hb hby d3_44) ?_
            exact kt)
          by_cases hc42 : ((p1 &&& (2147483647 : Int32)) % (10 : Int32)) = (4 : Int32)
          · have q43 := fun t (kt : Go p e below s₁ (mkF m 48 #[vI p1, vI ((p1 &&& (2147483647 : Int32)) % (10 : Int32))] []) t) => q41 t (by
              show Go _ _ _ _ (mkF m 45 #[vI p1, vI ((p1 &&& (2147483647 : Int32)) % (10 : Int32))] [(.int 4), (.int ((p1 &&& (2147483647 : Int32)) % (10 : Int32)))]) _
              refine XS.icmpNo X0.here hx rfl (hb hby d3_45) rfl (teq hc42).2 ?_
              exact kt)
            obtain ⟨T44, X44, e44, st44⟩ := getS2 X0 hx hZ hown (host := "") (Or.inl (ox hw 176 rfl)) Via.refl e0 (cx.2.2.2.2.2.2.2.2.2.2.1.ext O0.2) (g := (mkF m 48 #[vI p1, vI ((p1 &&& (2147483647 : Int32)) % (10 : Int32))] [])) rfl (hb hby d3_48)
            have q45 := fun t (kt : Go p e below T44 (mkF m 51 #[vI p1, vI ((p1 &&& (2147483647 : Int32)) % (10 : Int32))] [(.ref (cw 5))]) t) => q43 t (st44 t kt)
            exact ⟨some (.ref (cw 5)), T44, _, _, _, _, X44, by decide, by decide, nofun, q45, fun fs hr => retOut X44 hx hret rfl (o4 ⟨rfl, rfl, rfl⟩) (hb hby d3_51) hr, by rw [e44]; exact ⟨(by simp [own_stp, own_step, hc22, hc27, hc32, hc37, hc42]), N0, rfl⟩⟩
          · have q46 := fun t (kt : Go p e below s₁ (mkF m 54 #[vI p1, vI ((p1 &&& (2147483647 : Int32)) % (10 : Int32))] [(.int 5), (.int ((p1 &&& (2147483647 : Int32)) % (10 : Int32)))]) t) => q41 t (by
              show Go _ _ _ _ (mkF m 45 #[vI p1, vI ((p1 &&& (2147483647 : Int32)) % (10 : Int32))] [(.int 4), (.int ((p1 &&& (2147483647 : Int32)) % (10 : Int32)))]) _
              refine XS.icmpYes X0.here hx rfl (pc0 := 45) (pc' := 52) rfl (hb hby d3_45) rfl (feq hc42).2 (by decide) (by decide) ?_
              show Go _ _ _ _ (mkF m 52 _ []) _
              refine XS.iloadN X0.here hx rfl (hb hby d3_52) rfl ?_
              show Go _ _ _ _ (mkF m 53 _ [(.int ((p1 &&& (2147483647 : Int32)) % (10 : Int32)))]) _
              refine XS.iconst X0.here hx rfl (hb hby d3_53) ?_
              exact kt)
            by_cases hc47 : ((p1 &&& (2147483647 : Int32)) % (10 : Int32)) = (5 : Int32)
            · have q48 := fun t (kt : Go p e below s₁ (mkF m 57 #[vI p1, vI ((p1 &&& (2147483647 : Int32)) % (10 : Int32))] []) t) => q46 t (by
                show Go _ _ _ _ (mkF m 54 #[vI p1, vI ((p1 &&& (2147483647 : Int32)) % (10 : Int32))] [(.int 5), (.int ((p1 &&& (2147483647 : Int32)) % (10 : Int32)))]) _
                refine XS.icmpNo X0.here hx rfl (hb hby d3_54) rfl (teq hc47).2 ?_
                exact kt)
              obtain ⟨T49, X49, e49, st49⟩ := getS2 X0 hx hZ hown (host := "") (Or.inl (ox hw 182 rfl)) Via.refl e0 (cx.2.2.2.2.2.2.2.2.2.2.2.2.2.2.2.2.1.ext O0.2) (g := (mkF m 57 #[vI p1, vI ((p1 &&& (2147483647 : Int32)) % (10 : Int32))] [])) rfl (hb hby d3_57)
              have q50 := fun t (kt : Go p e below T49 (mkF m 60 #[vI p1, vI ((p1 &&& (2147483647 : Int32)) % (10 : Int32))] [(.ref (cw 8))]) t) => q48 t (st49 t kt)
              exact ⟨some (.ref (cw 8)), T49, _, _, _, _, X49, by decide, by decide, nofun, q50, fun fs hr => retOut X49 hx hret rfl (o4 ⟨rfl, rfl, rfl⟩) (hb hby d3_60) hr, by rw [e49]; exact ⟨(by simp [own_stp, own_step, hc22, hc27, hc32, hc37, hc42, hc47]), N0, rfl⟩⟩
            · have q51 := fun t (kt : Go p e below s₁ (mkF m 64 #[vI p1, vI ((p1 &&& (2147483647 : Int32)) % (10 : Int32))] [(.int 6), (.int ((p1 &&& (2147483647 : Int32)) % (10 : Int32)))]) t) => q46 t (by
                show Go _ _ _ _ (mkF m 54 #[vI p1, vI ((p1 &&& (2147483647 : Int32)) % (10 : Int32))] [(.int 5), (.int ((p1 &&& (2147483647 : Int32)) % (10 : Int32)))]) _
                refine XS.icmpYes X0.here hx rfl (pc0 := 54) (pc' := 61) rfl (hb hby d3_54) rfl (feq hc47).2 (by decide) (by decide) ?_
                show Go _ _ _ _ (mkF m 61 _ []) _
                refine XS.iloadN X0.here hx rfl (hb hby d3_61) rfl ?_
                show Go _ _ _ _ (mkF m 62 _ [(.int ((p1 &&& (2147483647 : Int32)) % (10 : Int32)))]) _
                refine XS.bipush X0.here hx rfl (hb hby d3_62) ?_
                exact kt)
              by_cases hc52 : ((p1 &&& (2147483647 : Int32)) % (10 : Int32)) = (6 : Int32)
              · have q53 := fun t (kt : Go p e below s₁ (mkF m 67 #[vI p1, vI ((p1 &&& (2147483647 : Int32)) % (10 : Int32))] []) t) => q51 t (by
                  show Go _ _ _ _ (mkF m 64 #[vI p1, vI ((p1 &&& (2147483647 : Int32)) % (10 : Int32))] [(.int 6), (.int ((p1 &&& (2147483647 : Int32)) % (10 : Int32)))]) _
                  refine XS.icmpNo X0.here hx rfl (hb hby d3_64) rfl (teq hc52).2 ?_
                  exact kt)
                obtain ⟨T54, X54, e54, st54⟩ := getS2 X0 hx hZ hown (host := "") (Or.inl (ox hw 335 rfl)) Via.refl e0 (cx.2.2.2.2.2.2.2.2.2.2.2.2.2.2.2.2.2.2.1.ext O0.2) (g := (mkF m 67 #[vI p1, vI ((p1 &&& (2147483647 : Int32)) % (10 : Int32))] [])) rfl (hb hby d3_67)
                have q55 := fun t (kt : Go p e below T54 (mkF m 70 #[vI p1, vI ((p1 &&& (2147483647 : Int32)) % (10 : Int32))] [(.ref (cw 9))]) t) => q53 t (st54 t kt)
                exact ⟨some (.ref (cw 9)), T54, _, _, _, _, X54, by decide, by decide, nofun, q55, fun fs hr => retOut X54 hx hret rfl (o4 ⟨rfl, rfl, rfl⟩) (hb hby d3_70) hr, by rw [e54]; exact ⟨(by simp [own_stp, own_step, hc22, hc27, hc32, hc37, hc42, hc47, hc52]), N0, rfl⟩⟩
              · have q56 := fun t (kt : Go p e below s₁ (mkF m 74 #[vI p1, vI ((p1 &&& (2147483647 : Int32)) % (10 : Int32))] [(.int 7), (.int ((p1 &&& (2147483647 : Int32)) % (10 : Int32)))]) t) => q51 t (by
                  show Go _ _ _ _ (mkF m 64 #[vI p1, vI ((p1 &&& (2147483647 : Int32)) % (10 : Int32))] [(.int 6), (.int ((p1 &&& (2147483647 : Int32)) % (10 : Int32)))]) _
                  refine XS.icmpYes X0.here hx rfl (pc0 := 64) (pc' := 71) rfl (hb hby d3_64) rfl (feq hc52).2 (by decide) (by decide) ?_
                  show Go _ _ _ _ (mkF m 71 _ []) _
                  refine XS.iloadN X0.here hx rfl (hb hby d3_71) rfl ?_
                  show Go _ _ _ _ (mkF m 72 _ [(.int ((p1 &&& (2147483647 : Int32)) % (10 : Int32)))]) _
                  refine XS.bipush X0.here hx rfl (hb hby d3_72) ?_
                  exact kt)
                by_cases hc57 : ((p1 &&& (2147483647 : Int32)) % (10 : Int32)) = (7 : Int32)
                · have q58 := fun t (kt : Go p e below s₁ (mkF m 77 #[vI p1, vI ((p1 &&& (2147483647 : Int32)) % (10 : Int32))] []) t) => q56 t (by
                    show Go _ _ _ _ (mkF m 74 #[vI p1, vI ((p1 &&& (2147483647 : Int32)) % (10 : Int32))] [(.int 7), (.int ((p1 &&& (2147483647 : Int32)) % (10 : Int32)))]) _
                    refine XS.icmpNo X0.here hx rfl (hb hby d3_74) rfl (teq hc57).2 ?_
                    exact kt)
                  obtain ⟨T59, X59, e59, st59⟩ := getS2 X0 hx hZ hown (host := "") (Or.inl (ox hw 382 rfl)) Via.refl e0 (cx.2.2.2.2.2.2.2.2.2.2.2.2.2.2.2.2.2.2.2.2.2.2.2.2.1.ext O0.2) (g := (mkF m 77 #[vI p1, vI ((p1 &&& (2147483647 : Int32)) % (10 : Int32))] [])) rfl (hb hby d3_77)
                  have q60 := fun t (kt : Go p e below T59 (mkF m 80 #[vI p1, vI ((p1 &&& (2147483647 : Int32)) % (10 : Int32))] [(.ref (cw 12))]) t) => q58 t (st59 t kt)
                  exact ⟨some (.ref (cw 12)), T59, _, _, _, _, X59, by decide, by decide, nofun, q60, fun fs hr => retOut X59 hx hret rfl (o4 ⟨rfl, rfl, rfl⟩) (hb hby d3_80) hr, by rw [e59]; exact ⟨(by simp [own_stp, own_step, hc22, hc27, hc32, hc37, hc42, hc47, hc52, hc57]), N0, rfl⟩⟩
                · have q61 := fun t (kt : Go p e below s₁ (mkF m 84 #[vI p1, vI ((p1 &&& (2147483647 : Int32)) % (10 : Int32))] [(.int 8), (.int ((p1 &&& (2147483647 : Int32)) % (10 : Int32)))]) t) => q56 t (by
                    show Go _ _ _ _ (mkF m 74 #[vI p1, vI ((p1 &&& (2147483647 : Int32)) % (10 : Int32))] [(.int 7), (.int ((p1 &&& (2147483647 : Int32)) % (10 : Int32)))]) _
                    refine XS.icmpYes X0.here hx rfl (pc0 := 74) (pc' := 81) rfl (hb hby d3_74) rfl (feq hc57).2 (by decide) (by decide) ?_
                    show Go _ _ _ _ (mkF m 81 _ []) _
                    refine XS.iloadN X0.here hx rfl (hb hby d3_81) rfl ?_
                    show Go _ _ _ _ (mkF m 82 _ [(.int ((p1 &&& (2147483647 : Int32)) % (10 : Int32)))]) _
                    refine XS.bipush X0.here hx rfl (hb hby d3_82) ?_
                    exact kt)
                  by_cases hc62 : ((p1 &&& (2147483647 : Int32)) % (10 : Int32)) = (8 : Int32)
                  · have q63 := fun t (kt : Go p e below s₁ (mkF m 87 #[vI p1, vI ((p1 &&& (2147483647 : Int32)) % (10 : Int32))] []) t) => q61 t (by
                      show Go _ _ _ _ (mkF m 84 #[vI p1, vI ((p1 &&& (2147483647 : Int32)) % (10 : Int32))] [(.int 8), (.int ((p1 &&& (2147483647 : Int32)) % (10 : Int32)))]) _
                      refine XS.icmpNo X0.here hx rfl (hb hby d3_84) rfl (teq hc62).2 ?_
                      exact kt)
                    obtain ⟨T64, X64, e64, st64⟩ := getS2 X0 hx hZ hown (host := "") (Or.inl (ox hw 340 rfl)) Via.refl e0 (cx.2.2.2.2.2.2.2.2.2.2.2.2.2.2.2.2.2.2.2.2.2.2.1.ext O0.2) (g := (mkF m 87 #[vI p1, vI ((p1 &&& (2147483647 : Int32)) % (10 : Int32))] [])) rfl (hb hby d3_87)
                    have q65 := fun t (kt : Go p e below T64 (mkF m 90 #[vI p1, vI ((p1 &&& (2147483647 : Int32)) % (10 : Int32))] [(.ref (cw 11))]) t) => q63 t (st64 t kt)
                    exact ⟨some (.ref (cw 11)), T64, _, _, _, _, X64, by decide, by decide, nofun, q65, fun fs hr => retOut X64 hx hret rfl (o4 ⟨rfl, rfl, rfl⟩) (hb hby d3_90) hr, by rw [e64]; exact ⟨(by simp [own_stp, own_step, hc22, hc27, hc32, hc37, hc42, hc47, hc52, hc57, hc62]), N0, rfl⟩⟩
                  · have q66 := fun t (kt : Go p e below s₁ (mkF m 91 #[vI p1, vI ((p1 &&& (2147483647 : Int32)) % (10 : Int32))] []) t) => q61 t (by
                      show Go _ _ _ _ (mkF m 84 #[vI p1, vI ((p1 &&& (2147483647 : Int32)) % (10 : Int32))] [(.int 8), (.int ((p1 &&& (2147483647 : Int32)) % (10 : Int32)))]) _
                      refine XS.icmpYes X0.here hx rfl (pc0 := 84) (pc' := 91) rfl (hb hby d3_84) rfl (feq hc62).2 (by decide) (by decide) ?_
                      exact kt)
                    obtain ⟨T67, X67, e67, st67⟩ := getS2 X0 hx hZ hown (host := "") (Or.inl (ox hw 338 rfl)) Via.refl e0 (cx.2.2.2.2.2.2.2.2.2.2.2.2.2.2.2.2.2.2.2.2.1.ext O0.2) (g := (mkF m 91 #[vI p1, vI ((p1 &&& (2147483647 : Int32)) % (10 : Int32))] [])) rfl (hb hby d3_91)
                    have q68 := fun t (kt : Go p e below T67 (mkF m 94 #[vI p1, vI ((p1 &&& (2147483647 : Int32)) % (10 : Int32))] [(.ref (cw 10))]) t) => q66 t (st67 t kt)
                    exact ⟨some (.ref (cw 10)), T67, _, _, _, _, X67, by decide, by decide, nofun, q68, fun fs hr => retOut X67 hx hret rfl (o4 ⟨rfl, rfl, rfl⟩) (hb hby d3_94) hr, by rw [e67]; exact ⟨(by simp [own_stp, own_step, hc22, hc27, hc32, hc37, hc42, hc47, hc52, hc57, hc62]), N0, rfl⟩⟩
theorem ef_1_I (m : MethodId) (x0 : Int32) : entryFrame m #[(.int x0)] 3 = mkF m 0 #[.val (.int x0), .unset, .unset] [] := by first | (simp [entryFrame, mkF, argsToLocals, Value.category]; done) | rfl
theorem pn_1 : plainName "com/example/sherman/sherman/service/VerificationRefusedAtPinLaw" = true := by first | (simp [plainName, overriddenIn]; done) | decide +kernel
theorem d1_0 : decode method_4_code 0 = .ok (.iload_n 0, 1) := by decide +kernel
theorem d1_1 : decode method_4_code 1 = .ok (.invokestatic 53, 3) := by decide +kernel
theorem pd_1 : parseMethodDescriptor "(I)Lcom/example/sherman/sherman/service/Verification$Status;" = some ⟨[.int], some (.object "com/example/sherman/sherman/service/Verification$Status")⟩ := by decide +kernel
theorem d1_4 : decode method_4_code 4 = .ok (.astore_n 1, 1) := by decide +kernel
theorem d1_5 : decode method_4_code 5 = .ok (.ldc 59, 2) := by decide +kernel
theorem d1_7 : decode method_4_code 7 = .ok (.astore_n 2, 1) := by decide +kernel
theorem d1_8 : decode method_4_code 8 = .ok (.aload_n 1, 1) := by decide +kernel
theorem d1_9 : decode method_4_code 9 = .ok (.getstatic 50, 3) := by decide +kernel
theorem d1_12 : decode method_4_code 12 = .ok (.if_acmp .ne 6, 3) := by decide +kernel
theorem d1_15 : decode method_4_code 15 = .ok (.ldc 61, 2) := by decide +kernel
theorem d1_17 : decode method_4_code 17 = .ok (.astore_n 2, 1) := by decide +kernel
theorem d1_18 : decode method_4_code 18 = .ok (.new 63, 3) := by decide +kernel
theorem d1_21 : decode method_4_code 21 = .ok (.dup, 1) := by decide +kernel
theorem d1_22 : decode method_4_code 22 = .ok (.iload_n 0, 1) := by decide +kernel
theorem d1_23 : decode method_4_code 23 = .ok (.invokestatic 65, 3) := by decide +kernel
theorem pd_2 : parseMethodDescriptor "(I)Lcom/example/sherman/sherman/service/Step;" = some ⟨[.int], some (.object "com/example/sherman/sherman/service/Step")⟩ := by decide +kernel
theorem d1_26 : decode method_4_code 26 = .ok (.aload_n 1, 1) := by decide +kernel
theorem d1_27 : decode method_4_code 27 = .ok (.aload_n 2, 1) := by decide +kernel
theorem d1_28 : decode method_4_code 28 = .ok (.invokespecial 69, 3) := by decide +kernel
theorem pd_3 : parseMethodDescriptor "(Lcom/example/sherman/sherman/service/Step;Lcom/example/sherman/sherman/service/Verification$Status;Ljava/lang/String;)V" = some ⟨[(.object "com/example/sherman/sherman/service/Step"), (.object "com/example/sherman/sherman/service/Verification$Status"), (.object "java/lang/String")], none⟩ := by decide +kernel
theorem d1_31 : decode method_4_code 31 = .ok (.areturn, 1) := by decide +kernel
def Q_rm1 (Z : State) (p1 : Int32) (cw : Nat → Nat) (z_cs : Int32) (h0 : Heap) (n0 : Nat) (v : Option Value) (h : Heap) (L : List Loc) : Prop := ∃ (b : Addr), v = some (.ref b) ∧ Fr n0 L ∧ Keep h0 h [] ∧ h0.size ≤ b ∧ Exa Z h b sk9 ∧ Fld Z h b sk9 "step" sk1 (.ref (own_stp cw p1)) ∧ Fld Z h b sk9 "status" sk2 (.ref (own_sts cw p1))
theorem rm1 (l : Launch) (Z : State) (a0 : Array Value) (hw : ∀ d ∈ tables_1, d.before a0 Z = true) (ws : List Jvm.Cond) {cw : Nat → Nat} {z_cs : Int32} (cx : Cx Z cw z_cs) (p1 : Int32) (h0 : Heap) (n0 : Nat) (O0 : Old Z n0 h0) :
    MetFree l ym7 (head1 (Jvm.Cond.code ym7 method_4_code 3 (some (.object sk9)) :: ws) (own_R 3 5 23 40)) (fun a U => a = #[(.int p1)] ∧ Z.Warmed39 U.vm ∧ U.heap = h0) (fun _ _ _ _ _ => True) (fun _ U o U' => ∃ v L, o = .returned v ∧ Q_rm1 Z p1 cw z_cs h0 n0 v U'.heap L ∧ ReturnedEndW U o U' L (own_R 3 5 23 40).cells (own_R 3 5 23 40).slots) := by
  refine MetFree.of_bodySF (plainFor_of_name pn_1) hisR ?_
  intro p e s m args below meth c s₁ Bd hml0 hP hK
  obtain ⟨rfl, hZ, hh⟩ := hP
  have hx := Bd.exec
  have hby := Bd.bytes
  have hml : c.maxLocals = 3 := hml0
  have hown : s.vm.findClass sk11 = some m.cls := findClass_of_methodNamed Bd.named
  have hnm := (name_of_methodNamed Bd.named Bd.method).1
  have hS0 : s.Since s.vm 0 := (State.WarmedH.refl s).since 0
  have hk0 : 0 ≤ h0.size := Nat.zero_le _
  have hwS : ∀ d ∈ Bundle.stringAtoms, d.before a0 Z = true := fun d hd => hw d ((by decide +kernel : ∀ d ∈ Bundle.stringAtoms, d ∈ tables_1) d hd)
  have X0 : Stand p l e (own_R 3 5 23 40) (s.setVm s.vm) m #[(.int p1)] below meth c s₁ [] 0 0 := Stand.of_body Bd
  have e0 : s₁.heap = h0 := by rw [← hh, Bd.state]; rfl
  have N0 := Fr.nil n0
  have K0 : Keep h0 h0 [] := Keep.refl _ _
  have pre0 : ∀ t, Go p e below s₁ (mkF m 0 #[vI p1, vU, vU] []) t → Go p e below s₁ (entryFrame m #[(.int p1)] 3) t := fun t k => castTop (ef_1_I m p1) k
  have q21 := fun t (kt : Go p e below s₁ (mkF m 1 #[vI p1, vU, vU] [(.int p1)]) t) => pre0 t (by
    show Go _ _ _ _ (mkF m 0 #[vI p1, vU, vU] []) _
    refine XS.iloadN X0.here hx rfl (hb hby d1_0) rfl ?_
    exact kt)
  obtain ⟨_, _, ⟨T22, L22, k22, n22⟩, -, X22, ⟨_, hQ22, l22, y22, z22⟩, st22⟩ := Jvm.LawKit.callS X0 hx (y := ym5) hown (ow hZ hw 5 rfl) (ow hZ hw 6 rfl) (ow hZ hw 3 rfl) (ow hZ hw 7 rfl) (by decide) (backOf (W := 0) (rm2 l Z a0 hw [] cx p1 h0 n0 O0 ) hZ (ox hw 7 rfl) (ox hw 3 rfl) (by decide) (by decide)) (g := (mkF m 1 #[vI p1, vU, vU] [(.int p1)])) rfl (by rw [hml]; rfl) (argsL := [(.int p1)]) (rest := []) (lenOf pd_1 rfl) rfl own_le0 (hb hby d1_1) (fun _ _ => ⟨rfl, e0, (by decide : 0 + 0 ≤ _), (by decide : 0 + 0 ≤ _)⟩)
  dsimp only [Pt.U, Pt.locs, Pt.cells, Pt.slots] at X22 l22 y22 z22 st22 hQ22
  subst l22 y22 z22
  obtain ⟨rfl, Nq22, eq22⟩ := hQ22
  have N23 := Fr.app N0 Nq22
  have q24 := fun t (kt : Go p e below T22 (mkF m 5 #[vI p1, vR (own_sts cw p1), vU] []) t) => q21 t (st22 t (by
    show Go _ _ _ _ (mkF m 4 #[vI p1, vU, vU] [(.ref (own_sts cw p1))]) _
    refine XS.astoreN X22.here hx rfl (hb hby d1_4) rfl rfl (l' := #[vI p1, vR (own_sts cw p1), vU]) rfl ?_
    exact kt))
  obtain ⟨b25, T25, h25, k25, X25, e25, E25, hS25, hkk25, hZ, hown, st25⟩ := ldcS (vm0 := s.vm) X22 hx hZ hown (ox hw 11 rfl) hwS eq22 hS0 hk0 (g := (mkF m 5 #[vI p1, vR (own_sts cw p1), vU] [])) rfl (hb hby d1_5) (n := 0) (by decide) (by decide) (by decide) (by decide)
  have O26 := O0.ext E25
  have K27 := K0.ext E25
  have q28 := fun t (kt : Go p e below T25 (mkF m 9 #[vI p1, vR (own_sts cw p1), vR b25] [(.ref (own_sts cw p1))]) t) => q24 t (st25 t (by
    show Go _ _ _ _ (mkF m 7 #[vI p1, vR (own_sts cw p1), vU] [(.ref b25)]) _
    refine XS.astoreN X25.here hx rfl (hb hby d1_7) rfl rfl (l' := #[vI p1, vR (own_sts cw p1), vR b25]) rfl ?_
    show Go _ _ _ _ (mkF m 8 #[vI p1, vR (own_sts cw p1), vR b25] []) _
    refine XS.aloadN X25.here hx rfl (hb hby d1_8) rfl rfl ?_
    exact kt))
  obtain ⟨T29, X29, e29, st29⟩ := getS2 X25 hx hZ hown (host := "") (Or.inl (ox hw 19 rfl)) Via.refl e25 (cx.2.2.1.ext O26.2) (g := (mkF m 9 #[vI p1, vR (own_sts cw p1), vR b25] [(.ref (own_sts cw p1))])) rfl (hb hby d1_9)
  have q30 := fun t (kt : Go p e below T29 (mkF m 12 #[vI p1, vR (own_sts cw p1), vR b25] [(.ref (cw 1)), (.ref (own_sts cw p1))]) t) => q28 t (st29 t kt)
  by_cases hc31 : (own_sts cw p1) = (cw 1)
  · have q32 := fun t (kt : Go p e below T29 (mkF m 15 #[vI p1, vR (own_sts cw p1), vR b25] []) t) => q30 t (by
      show Go _ _ _ _ (mkF m 12 #[vI p1, vR (own_sts cw p1), vR b25] [(.ref (cw 1)), (.ref (own_sts cw p1))]) _
      refine Jvm.RoadKit.acmp (g := (mkF m 12 #[vI p1, vR (own_sts cw p1), vR b25] [(.ref (cw 1)), (.ref (own_sts cw p1))])) X29 hx rfl rfl rfl (pc0 := 12) (pc' := 15) (same := true) rfl (hb hby d1_12) rfl (decide_eq_true (congrArg Value.ref hc31)) (by decide) (by decide) ?_
      exact kt)
    obtain ⟨b33, T33, h33, k33, X33, e33, E33, hS33, hkk33, hZ, hown, st33⟩ := ldcS (vm0 := T25.vm) X29 hx hZ hown (ox hw 337 rfl) hwS e29 hS25 hkk25 (g := (mkF m 15 #[vI p1, vR (own_sts cw p1), vR b25] [])) rfl (hb hby d1_15) (n := 12) (by decide) (by decide) (by decide) (by decide)
    have O34 := O26.ext E33
    have K35 := K27.ext E33
    have q36 := fun t (kt : Go p e below T33 (mkF m 18 #[vI p1, vR (own_sts cw p1), vR b33] []) t) => q32 t (st33 t (by
      show Go _ _ _ _ (mkF m 17 #[vI p1, vR (own_sts cw p1), vR b25] [(.ref b33)]) _
      refine XS.astoreN X33.here hx rfl (hb hby d1_17) rfl rfl (l' := #[vI p1, vR (own_sts cw p1), vR b33]) rfl ?_
      exact kt))
    obtain ⟨T37, h37, X37, e37, E37, A37, D37, U37, st37⟩ := newO X33 hx hZ hown (ox hw 21 rfl) (ox hw 22 rfl) (ox hw 23 rfl) e33 (g := (mkF m 18 #[vI p1, vR (own_sts cw p1), vR b33] [])) rfl (hb hby d1_18) (by decide) (by decide)
    obtain ⟨b37, g37⟩ : ∃ z, z = h33.size := ⟨_, rfl⟩
    rw [← g37] at A37 D37 st37
    have gg38 : n0 ≤ b37 := Nat.le_trans (O34.1 ▸ O34.2.1) (Nat.le_of_eq g37.symm)
    have sz39 : h0.size ≤ b37 := Nat.le_trans K35.1 (Nat.le_of_eq g37.symm)
    have O40 := O34.ext E37
    have hk41 : _ ≤ h37.size := Nat.le_trans hkk33 E37.1
    have K42 := K35.ext E37
    have F37_step : Fld Z h37 b37 sk9 "step" sk1 .null := D37 (Or.inr (ox hw 42 rfl)) (ty := (.object sk7)) (by decide)
    have F37_status : Fld Z h37 b37 sk9 "status" sk2 .null := D37 (Or.inr (ox hw 44 rfl)) (ty := (.object sk10)) (by decide)
    have F37_reason : Fld Z h37 b37 sk9 "reason" sk4 .null := D37 (Or.inr (ox hw 46 rfl)) (ty := (.object sk15)) (by decide)
    have q43 := fun t (kt : Go p e below T37 (mkF m 23 #[vI p1, vR (own_sts cw p1), vR b33] [(.int p1), (.ref b37), (.ref b37)]) t) => q36 t (st37 t (by
      show Go _ _ _ _ (mkF m 21 #[vI p1, vR (own_sts cw p1), vR b33] [(.ref b37)]) _
      refine XS.dup X37.here hx rfl (hb hby d1_21) rfl rfl ?_
      show Go _ _ _ _ (mkF m 22 _ [(.ref b37), (.ref b37)]) _
      refine XS.iloadN X37.here hx rfl (hb hby d1_22) rfl ?_
      exact kt))
    obtain ⟨_, _, ⟨T44, L44, k44, n44⟩, -, X44, ⟨_, hQ44, l44, y44, z44⟩, st44⟩ := Jvm.LawKit.callS X37 hx (y := ym6) hown (ow hZ hw 24 rfl) (ow hZ hw 25 rfl) (ow hZ hw 3 rfl) (ow hZ hw 26 rfl) (by decide) (backOf (W := 2) (rm3 l Z a0 hw [] cx p1 h37 n0 O40 ) hZ (ox hw 26 rfl) (ox hw 3 rfl) (by decide) (by decide)) (g := (mkF m 23 #[vI p1, vR (own_sts cw p1), vR b33] [(.int p1), (.ref b37), (.ref b37)])) rfl (by rw [hml]; rfl) (argsL := [(.int p1)]) (rest := [(.ref b37), (.ref b37)]) (lenOf pd_2 rfl) rfl own_le0 (hb hby d1_23) (fun _ _ => ⟨rfl, e37, (by decide : 5 + 0 ≤ _), (by decide : 23 + 0 ≤ _)⟩)
    dsimp only [Pt.U, Pt.locs, Pt.cells, Pt.slots] at X44 l44 y44 z44 st44 hQ44
    subst l44 y44 z44
    obtain ⟨rfl, Nq44, eq44⟩ := hQ44
    have N45 := Fr.app N23 Nq44
    have q46 := fun t (kt : Go p e below T44 (mkF m 28 #[vI p1, vR (own_sts cw p1), vR b33] [(.ref b33), (.ref (own_sts cw p1)), (.ref (own_stp cw p1)), (.ref b37), (.ref b37)]) t) => q43 t (st44 t (by
      show Go _ _ _ _ (mkF m 26 #[vI p1, vR (own_sts cw p1), vR b33] [(.ref (own_stp cw p1)), (.ref b37), (.ref b37)]) _
      refine XS.aloadN X44.here hx rfl (hb hby d1_26) rfl rfl ?_
      show Go _ _ _ _ (mkF m 27 _ [(.ref (own_sts cw p1)), (.ref (own_stp cw p1)), (.ref b37), (.ref b37)]) _
      refine XS.aloadN X44.here hx rfl (hb hby d1_27) rfl rfl ?_
      exact kt))
    obtain ⟨_, _, ⟨T47, L47, k47, n47⟩, -, X47, ⟨_, hQ47, l47, y47, z47⟩, st47⟩ := X44.specialBack hx (y := ym4) rfl hown (ow hZ hw 30 rfl) (ow hZ hw 31 rfl) (ow hZ hw 32 rfl) (by decide) (backOf (W := 1) (rm4 l Z a0 hw [] cx b37 (own_stp cw p1) (own_sts cw p1) b33 h37 n0 O40 A37 F37_step F37_status F37_reason gg38) hZ (ox hw 32 rfl) (ox hw 23 rfl) (by decide) (by decide)) (g := (mkF m 28 #[vI p1, vR (own_sts cw p1), vR b33] [(.ref b33), (.ref (own_sts cw p1)), (.ref (own_stp cw p1)), (.ref b37), (.ref b37)])) rfl (by rw [hml]; rfl) (Steps.refl _) (a := b37) (argsL := [(.ref (own_stp cw p1)), (.ref (own_sts cw p1)), (.ref b33)]) (rest := [(.ref b37)]) (lenOf pd_3 rfl) rfl own_le0 (hb hby d1_28) (fun _ _ => ⟨rfl, eq44, (by decide : 5 + 0 ≤ _), (by decide : 23 + 0 ≤ _)⟩)
    dsimp only [Pt.U, Pt.locs, Pt.cells, Pt.slots] at X47 l47 y47 z47 st47 hQ47
    subst l47 y47 z47
    obtain ⟨rfl, Nq47, Kq47, fq47_0, fq47_1⟩ := hQ47
    have N48 := Fr.app N45 Nq47
    have O49 := O40.keep Kq47 (allS gg38 all0)
    have hk50 : _ ≤ T47.heap.size := Nat.le_trans hk41 Kq47.1
    have K51 := K42.trans Kq47 (allS (Or.inr sz39) all0)
    have q52 := fun t (kt : Go p e below T47 (mkF m 31 #[vI p1, vR (own_sts cw p1), vR b33] [(.ref b37)]) t) => q46 t (st47.trans kt)
    obtain ⟨fs, hr, hrun, hended, hRE⟩ := X47.leaveW hS33 hk50 (v := some (.ref b37)) (fun h => by rw [Bd.returns] at h; cases h)
    refine ⟨_, _, q52 _ ?_, hrun, hended, _, _, rfl, ?_, hRE.1, hRE.2.1, hRE.2.2.1, hRE.2.2.2.mono (by decide) (by decide)⟩
    · show Go p e below T47 (mkF m 31 #[vI p1, vR (own_sts cw p1), vR b33] [(.ref b37)]) _
      jvm_step X47.here [X47.here.top, hx, (hb hby d1_31), X47.method', Bd.returns, Value.isRef, FieldType.isReference]
      first | (intro acts; rw [hr _ acts rfl rfl rfl]) | rw [hr _ _ rfl rfl rfl]
      exact Steps.refl _
    · show Q_rm1 Z p1 cw z_cs h0 n0 _ T47.heap _
      have f53 := (A37.keep Kq47)
      exact ⟨b37, rfl, N48, K51, sz39, f53, fq47_0, fq47_1⟩
  · have q54 := fun t (kt : Go p e below T29 (mkF m 18 #[vI p1, vR (own_sts cw p1), vR b25] []) t) => q30 t (by
      show Go _ _ _ _ (mkF m 12 #[vI p1, vR (own_sts cw p1), vR b25] [(.ref (cw 1)), (.ref (own_sts cw p1))]) _
      refine Jvm.RoadKit.acmp (g := (mkF m 12 #[vI p1, vR (own_sts cw p1), vR b25] [(.ref (cw 1)), (.ref (own_sts cw p1))])) X29 hx rfl rfl rfl (pc0 := 12) (pc' := 18) (same := false) rfl (hb hby d1_12) rfl (decide_eq_false (fun q => hc31 (Value.ref.inj q))) (by decide) (by decide) ?_
      exact kt)
    obtain ⟨T55, h55, X55, e55, E55, A55, D55, U55, st55⟩ := newO X29 hx hZ hown (ox hw 21 rfl) (ox hw 22 rfl) (ox hw 23 rfl) e29 (g := (mkF m 18 #[vI p1, vR (own_sts cw p1), vR b25] [])) rfl (hb hby d1_18) (by decide) (by decide)
    obtain ⟨b55, g55⟩ : ∃ z, z = h25.size := ⟨_, rfl⟩
    rw [← g55] at A55 D55 st55
    have gg56 : n0 ≤ b55 := Nat.le_trans (O26.1 ▸ O26.2.1) (Nat.le_of_eq g55.symm)
    have sz57 : h0.size ≤ b55 := Nat.le_trans K27.1 (Nat.le_of_eq g55.symm)
    have O58 := O26.ext E55
    have hk59 : _ ≤ h55.size := Nat.le_trans hkk25 E55.1
    have K60 := K27.ext E55
    have F55_step : Fld Z h55 b55 sk9 "step" sk1 .null := D55 (Or.inr (ox hw 42 rfl)) (ty := (.object sk7)) (by decide)
    have F55_status : Fld Z h55 b55 sk9 "status" sk2 .null := D55 (Or.inr (ox hw 44 rfl)) (ty := (.object sk10)) (by decide)
    have F55_reason : Fld Z h55 b55 sk9 "reason" sk4 .null := D55 (Or.inr (ox hw 46 rfl)) (ty := (.object sk15)) (by decide)
    have q61 := fun t (kt : Go p e below T55 (mkF m 23 #[vI p1, vR (own_sts cw p1), vR b25] [(.int p1), (.ref b55), (.ref b55)]) t) => q54 t (st55 t (by
      show Go _ _ _ _ (mkF m 21 #[vI p1, vR (own_sts cw p1), vR b25] [(.ref b55)]) _
      refine XS.dup X55.here hx rfl (hb hby d1_21) rfl rfl ?_
      show Go _ _ _ _ (mkF m 22 _ [(.ref b55), (.ref b55)]) _
      refine XS.iloadN X55.here hx rfl (hb hby d1_22) rfl ?_
      exact kt))
    obtain ⟨_, _, ⟨T62, L62, k62, n62⟩, -, X62, ⟨_, hQ62, l62, y62, z62⟩, st62⟩ := Jvm.LawKit.callS X55 hx (y := ym6) hown (ow hZ hw 24 rfl) (ow hZ hw 25 rfl) (ow hZ hw 3 rfl) (ow hZ hw 26 rfl) (by decide) (backOf (W := 2) (rm3 l Z a0 hw [] cx p1 h55 n0 O58 ) hZ (ox hw 26 rfl) (ox hw 3 rfl) (by decide) (by decide)) (g := (mkF m 23 #[vI p1, vR (own_sts cw p1), vR b25] [(.int p1), (.ref b55), (.ref b55)])) rfl (by rw [hml]; rfl) (argsL := [(.int p1)]) (rest := [(.ref b55), (.ref b55)]) (lenOf pd_2 rfl) rfl own_le0 (hb hby d1_23) (fun _ _ => ⟨rfl, e55, (by decide : 3 + 0 ≤ _), (by decide : 7 + 0 ≤ _)⟩)
    dsimp only [Pt.U, Pt.locs, Pt.cells, Pt.slots] at X62 l62 y62 z62 st62 hQ62
    subst l62 y62 z62
    obtain ⟨rfl, Nq62, eq62⟩ := hQ62
    have N63 := Fr.app N23 Nq62
    have q64 := fun t (kt : Go p e below T62 (mkF m 28 #[vI p1, vR (own_sts cw p1), vR b25] [(.ref b25), (.ref (own_sts cw p1)), (.ref (own_stp cw p1)), (.ref b55), (.ref b55)]) t) => q61 t (st62 t (by
      show Go _ _ _ _ (mkF m 26 #[vI p1, vR (own_sts cw p1), vR b25] [(.ref (own_stp cw p1)), (.ref b55), (.ref b55)]) _
      refine XS.aloadN X62.here hx rfl (hb hby d1_26) rfl rfl ?_
      show Go _ _ _ _ (mkF m 27 _ [(.ref (own_sts cw p1)), (.ref (own_stp cw p1)), (.ref b55), (.ref b55)]) _
      refine XS.aloadN X62.here hx rfl (hb hby d1_27) rfl rfl ?_
      exact kt))
    obtain ⟨_, _, ⟨T65, L65, k65, n65⟩, -, X65, ⟨_, hQ65, l65, y65, z65⟩, st65⟩ := X62.specialBack hx (y := ym4) rfl hown (ow hZ hw 30 rfl) (ow hZ hw 31 rfl) (ow hZ hw 32 rfl) (by decide) (backOf (W := 1) (rm4 l Z a0 hw [] cx b55 (own_stp cw p1) (own_sts cw p1) b25 h55 n0 O58 A55 F55_step F55_status F55_reason gg56) hZ (ox hw 32 rfl) (ox hw 23 rfl) (by decide) (by decide)) (g := (mkF m 28 #[vI p1, vR (own_sts cw p1), vR b25] [(.ref b25), (.ref (own_sts cw p1)), (.ref (own_stp cw p1)), (.ref b55), (.ref b55)])) rfl (by rw [hml]; rfl) (Steps.refl _) (a := b55) (argsL := [(.ref (own_stp cw p1)), (.ref (own_sts cw p1)), (.ref b25)]) (rest := [(.ref b55)]) (lenOf pd_3 rfl) rfl own_le0 (hb hby d1_28) (fun _ _ => ⟨rfl, eq62, (by decide : 3 + 0 ≤ _), (by decide : 7 + 0 ≤ _)⟩)
    dsimp only [Pt.U, Pt.locs, Pt.cells, Pt.slots] at X65 l65 y65 z65 st65 hQ65
    subst l65 y65 z65
    obtain ⟨rfl, Nq65, Kq65, fq65_0, fq65_1⟩ := hQ65
    have N66 := Fr.app N63 Nq65
    have O67 := O58.keep Kq65 (allS gg56 all0)
    have hk68 : _ ≤ T65.heap.size := Nat.le_trans hk59 Kq65.1
    have K69 := K60.trans Kq65 (allS (Or.inr sz57) all0)
    have q70 := fun t (kt : Go p e below T65 (mkF m 31 #[vI p1, vR (own_sts cw p1), vR b25] [(.ref b55)]) t) => q64 t (st65.trans kt)
    obtain ⟨fs, hr, hrun, hended, hRE⟩ := X65.leaveW hS25 hk68 (v := some (.ref b55)) (fun h => by rw [Bd.returns] at h; cases h)
    refine ⟨_, _, q70 _ ?_, hrun, hended, _, _, rfl, ?_, hRE.1, hRE.2.1, hRE.2.2.1, hRE.2.2.2.mono (by decide) (by decide)⟩
    · show Go p e below T65 (mkF m 31 #[vI p1, vR (own_sts cw p1), vR b25] [(.ref b55)]) _
      jvm_step X65.here [X65.here.top, hx, (hb hby d1_31), X65.method', Bd.returns, Value.isRef, FieldType.isReference]
      first | (intro acts; rw [hr _ acts rfl rfl rfl]) | rw [hr _ _ rfl rfl rfl]
      exact Steps.refl _
    · show Q_rm1 Z p1 cw z_cs h0 n0 _ T65.heap _
      have f71 := (A55.keep Kq65)
      exact ⟨b55, rfl, N66, K69, sz57, f71, fq65_0, fq65_1⟩
theorem ef_26_II (m : MethodId) (x0 : Int32) (x1 : Int32) : entryFrame m #[(.int x0), (.int x1)] 2 = mkF m 0 #[.val (.int x0), .val (.int x1)] [] := by first | (simp [entryFrame, mkF, argsToLocals, Value.category]; done) | rfl
theorem d26_0 : decode jdk_29_method_65_code 0 = .ok (.iload_n 0, 1) := by decide +kernel
theorem d26_1 : decode jdk_29_method_65_code 1 = .ok (.iload_n 1, 1) := by decide +kernel
theorem d26_2 : decode jdk_29_method_65_code 2 = .ok (.if_icmp .lt 7, 3) := by decide +kernel
theorem d26_5 : decode jdk_29_method_65_code 5 = .ok (.iload_n 0, 1) := by decide +kernel
theorem d26_6 : decode jdk_29_method_65_code 6 = .ok (.goto 4, 3) := by decide +kernel
theorem d26_10 : decode jdk_29_method_65_code 10 = .ok (.ireturn, 1) := by decide +kernel
def Q_rm26 (Z : State) (cw : Nat → Nat) (z_cs : Int32) (h0 : Heap) (n0 : Nat) (v : Option Value) (h : Heap) (L : List Loc) : Prop := v = some (.int 10) ∧ Fr n0 L ∧ h = h0
theorem rm26 (l : Launch) (Z : State) (a0 : Array Value) (hw : ∀ d ∈ tables_1, d.before a0 Z = true) (ws : List Jvm.Cond) {cw : Nat → Nat} {z_cs : Int32} (cx : Cx Z cw z_cs) (h0 : Heap) (n0 : Nat) (O0 : Old Z n0 h0) :
    OwnMet l ym8 (Jvm.Cond.code ym8 jdk_29_method_65_code 2 (some .int) :: ws) (own_R 0 0 0 0) #[(.int 10), (.int 1)] Z h0 (Q_rm26 Z  cw z_cs h0 n0) := by
  refine own_body (Jvm.Free.JP.mathPlain rfl (by decide +kernel)) hisR fun p e s m below meth c s₁ hx hby hml hown hnm hret hZ X0 e0 => ?_
  have N0 := Fr.nil n0
  have pre0 : ∀ t, Go p e below s₁ (mkF m 0 #[vI 10, vI 1] []) t → Go p e below s₁ (entryFrame m #[(.int 10), (.int 1)] 2) t := fun t k => castTop (ef_26_II m (10 : Int32) (1 : Int32)) k
  have q21 := fun t (kt : Go p e below s₁ (mkF m 10 #[vI 10, vI 1] [(.int 10)]) t) => pre0 t (by
    show Go _ _ _ _ (mkF m 0 #[vI 10, vI 1] []) _
    refine XS.iloadN X0.here hx rfl (hb hby d26_0) rfl ?_
    show Go _ _ _ _ (mkF m 1 _ [(.int 10)]) _
    refine XS.iloadN X0.here hx rfl (hb hby d26_1) rfl ?_
    show Go _ _ _ _ (mkF m 2 _ [(.int 1), (.int 10)]) _
    refine XS.icmpNo X0.here hx rfl (hb hby d26_2) rfl (flt (by decide : ¬ ((10 : Int32) < (1 : Int32)))).1 ?_
    show Go _ _ _ _ (mkF m 5 _ []) _
    refine XS.iloadN X0.here hx rfl (hb hby d26_5) rfl ?_
    show Go _ _ _ _ (mkF m 6 _ [(.int 10)]) _
    refine XS.goto X0.here hx rfl (pc0 := 6) (pc' := 10) rfl (hb hby d26_6) (by decide) (by decide) ?_
    exact kt)
  exact ⟨some (.int 10), s₁, _, _, _, _, X0, by decide, by decide, nofun, q21, fun fs hr => retI X0 hx hret (hb hby d26_10) hr, by rw [e0]; exact ⟨rfl, N0, rfl⟩⟩
theorem ef_25_RI (m : MethodId) (x0 : Addr) (x1 : Int32) : entryFrame m #[(.ref x0), (.int x1)] 4 = mkF m 0 #[.val (.ref x0), .val (.int x1), .unset, .unset] [] := by first | (simp [entryFrame, mkF, argsToLocals, Value.category]; done) | rfl
theorem pn_25 : plainName "java/util/ArrayList" = true := by first | (simp [plainName, overriddenIn]; done) | decide +kernel
theorem d25_0 : decode jdk_38_method_6_code 0 = .ok (.aload_n 0, 1) := by decide +kernel
theorem d25_1 : decode jdk_38_method_6_code 1 = .ok (.getfield 9, 3) := by decide +kernel
theorem d25_4 : decode jdk_38_method_6_code 4 = .ok (.arraylength, 1) := by decide +kernel
theorem d25_5 : decode jdk_38_method_6_code 5 = .ok (.istore_n 2, 1) := by decide +kernel
theorem d25_6 : decode jdk_38_method_6_code 6 = .ok (.iload_n 2, 1) := by decide +kernel
theorem d25_7 : decode jdk_38_method_6_code 7 = .ok (.ifCond .gt 13, 3) := by decide +kernel
theorem d25_10 : decode jdk_38_method_6_code 10 = .ok (.aload_n 0, 1) := by decide +kernel
theorem d25_11 : decode jdk_38_method_6_code 11 = .ok (.getfield 9, 3) := by decide +kernel
theorem d25_14 : decode jdk_38_method_6_code 14 = .ok (.getstatic 39, 3) := by decide +kernel
theorem d25_17 : decode jdk_38_method_6_code 17 = .ok (.if_acmp .eq 28, 3) := by decide +kernel
theorem d25_45 : decode jdk_38_method_6_code 45 = .ok (.aload_n 0, 1) := by decide +kernel
theorem d25_46 : decode jdk_38_method_6_code 46 = .ok (.bipush 10, 2) := by decide +kernel
theorem d25_48 : decode jdk_38_method_6_code 48 = .ok (.iload_n 1, 1) := by decide +kernel
theorem d25_49 : decode jdk_38_method_6_code 49 = .ok (.invokestatic 79, 3) := by decide +kernel
theorem pd_4 : parseMethodDescriptor "(II)I" = some ⟨[.int, .int], some .int⟩ := by decide +kernel
theorem d25_52 : decode jdk_38_method_6_code 52 = .ok (.anewarray 7, 3) := by decide +kernel
theorem d25_55 : decode jdk_38_method_6_code 55 = .ok (.dup_x1, 1) := by decide +kernel
theorem d25_56 : decode jdk_38_method_6_code 56 = .ok (.putfield 9, 3) := by decide +kernel
theorem d25_59 : decode jdk_38_method_6_code 59 = .ok (.areturn, 1) := by decide +kernel
def Q_rm25 (Z : State) (a1 : Addr) (z : Int32) (cw : Nat → Nat) (z_cs : Int32) (h0 : Heap) (n0 : Nat) (v : Option Value) (h : Heap) (L : List Loc) : Prop := ∃ (b : Addr) (kb : ClassId), v = some (.ref b) ∧ Fr n0 L ∧ Keep h0 h [a1] ∧ h0.size ≤ b ∧ Fld Z h a1 sk17 "modCount" "I" (.int z) ∧ Fld Z h a1 sk18 sk12 sk6 (.ref b) ∧ Fld Z h a1 sk18 "size" "I" (.int 0) ∧ Arv Z h b kb (.object sk14) (10 : Int32) [.null, .null, .null, .null, .null, .null, .null, .null, .null, .null] .null ∧ Exa Z h b sk6 ∧ (Ovr Z kb sk14)
theorem rm25 (l : Launch) (Z : State) (a0 : Array Value) (hw : ∀ d ∈ tables_1, d.before a0 Z = true) (ws : List Jvm.Cond) {cw : Nat → Nat} {z_cs : Int32} (cx : Cx Z cw z_cs) (a1 : Addr) (z : Int32) (h0 : Heap) (n0 : Nat) (O0 : Old Z n0 h0) (G0 : Exa Z h0 a1 sk18) (G1 : Fld Z h0 a1 sk17 "modCount" "I" (.int z)) (G2 : Fld Z h0 a1 sk18 sk12 sk6 (.ref (cw 13))) (G3 : Fld Z h0 a1 sk18 "size" "I" (.int 0)) (g_a1 : n0 ≤ a1) :
    OwnMet l ym9 (Jvm.Cond.code ym9 jdk_38_method_6_code 4 (some (.array (.object sk14))) :: ws) (own_R 1 1 10 14) #[(.ref a1), (.int 1)] Z h0 (Q_rm25 Z a1 z cw z_cs h0 n0) := by
  refine own_body (plainFor_of_name pn_25) hisR fun p e s m below meth c s₁ hx hby hml hown hnm hret hZ X0 e0 => ?_
  have N0 := Fr.nil n0
  have K0 : Keep h0 h0 [a1] := Keep.refl _ _
  have pre0 : ∀ t, Go p e below s₁ (mkF m 0 #[vR a1, vI 1, vU, vU] []) t → Go p e below s₁ (entryFrame m #[(.ref a1), (.int 1)] 4) t := fun t k => castTop (ef_25_RI m a1 (1 : Int32)) k
  have q21 := fun t (kt : Go p e below s₁ (mkF m 1 #[vR a1, vI 1, vU, vU] [(.ref a1)]) t) => pre0 t (by
    show Go _ _ _ _ (mkF m 0 #[vR a1, vI 1, vU, vU] []) _
    refine XS.aloadN X0.here hx rfl (hb hby d25_0) rfl rfl ?_
    exact kt)
  obtain ⟨T22, X22, e22, st22⟩ := getF X0 hx hZ hown (host := "") (Or.inl (ox hw 73 rfl)) Via.refl e0 G2 (g := (mkF m 1 #[vR a1, vI 1, vU, vU] [(.ref a1)])) rfl rfl (hb hby d25_1)
  obtain ⟨c23, Ar23, -, S23, N23, -, -⟩ := id (cx.2.2.2.2.2.2.2.2.2.2.2.2.2.2.2.2.2.2.2.2.2.2.2.2.2.2.2.2.2.2.1.ext O0.2)
  have q24 := fun t (kt : Go p e below T22 (mkF m 11 #[vR a1, vI 1, vI 0, vU] [(.ref a1)]) t) => q21 t (st22 t (by
    show Go _ _ _ _ (mkF m 4 #[vR a1, vI 1, vU, vU] [(.ref (cw 13))]) _
    refine X22.arraylength hx (by rw [e22]; exact Ar23.1) (State.isArrayOf_alike hZ.alike Ar23.2.1) (g := (mkF m 4 #[vR a1, vI 1, vU, vU] [(.ref (cw 13))])) rfl rfl (hb hby d25_4) _ ?_
    rw [len_of S23 N23]
    show Go _ _ _ _ (mkF m 5 _ [(.int 0)]) _
    refine XS.istoreN X22.here hx rfl (hb hby d25_5) rfl (l' := #[vR a1, vI 1, vI 0, vU]) rfl ?_
    show Go _ _ _ _ (mkF m 6 #[vR a1, vI 1, vI 0, vU] []) _
    refine XS.iloadN X22.here hx rfl (hb hby d25_6) rfl ?_
    show Go _ _ _ _ (mkF m 7 _ [(.int 0)]) _
    refine XS.ifNo X22.here hx rfl (hb hby d25_7) rfl ((if0 _ _).trans (flt (by decide : ¬ ((0 : Int32) < (0 : Int32)))).2.2.1) ?_
    show Go _ _ _ _ (mkF m 10 _ []) _
    refine XS.aloadN X22.here hx rfl (hb hby d25_10) rfl rfl ?_
    exact kt))
  obtain ⟨T25, X25, e25, st25⟩ := getF X22 hx hZ hown (host := "") (Or.inl (ox hw 73 rfl)) Via.refl e22 G2 (g := (mkF m 11 #[vR a1, vI 1, vI 0, vU] [(.ref a1)])) rfl rfl (hb hby d25_11)
  obtain ⟨T26, X26, e26, st26⟩ := getS2 X25 hx hZ hown (host := "") (Or.inl (ox hw 72 rfl)) Via.refl e25 (cx.2.2.2.2.2.2.2.2.2.2.2.2.2.2.2.2.2.2.2.2.2.2.2.2.2.2.2.2.2.1.ext O0.2) (g := (mkF m 14 #[vR a1, vI 1, vI 0, vU] [(.ref (cw 13))])) rfl (hb hby d25_14)
  have q27 := fun t (kt : Go p e below T26 (mkF m 49 #[vR a1, vI 1, vI 0, vU] [(.int 1), (.int 10), (.ref a1)]) t) => q24 t (st25 t (st26 t (by
    show Go _ _ _ _ (mkF m 17 #[vR a1, vI 1, vI 0, vU] [(.ref (cw 13)), (.ref (cw 13))]) _
    refine Jvm.RoadKit.acmp (g := (mkF m 17 #[vR a1, vI 1, vI 0, vU] [(.ref (cw 13)), (.ref (cw 13))])) X26 hx rfl rfl rfl (pc0 := 17) (pc' := 45) (same := true) rfl (hb hby d25_17) rfl (decide_eq_true rfl) (by decide) (by decide) ?_
    show Go _ _ _ _ (mkF m 45 _ []) _
    refine XS.aloadN X26.here hx rfl (hb hby d25_45) rfl rfl ?_
    show Go _ _ _ _ (mkF m 46 _ [(.ref a1)]) _
    refine XS.bipush X26.here hx rfl (hb hby d25_46) ?_
    show Go _ _ _ _ (mkF m 48 _ [(.int 10), (.ref a1)]) _
    refine XS.iloadN X26.here hx rfl (hb hby d25_48) rfl ?_
    exact kt)))
  obtain ⟨_, _, ⟨T28, L28, k28, n28⟩, -, X28, ⟨_, hQ28, l28, y28, z28⟩, st28⟩ := Jvm.LawKit.callS X26 hx (y := ym8) hown (ow hZ hw 206 rfl) (ow hZ hw 207 rfl) (ow hZ hw 208 rfl) (ow hZ hw 209 rfl) (by decide) (backOf (W := 1) (rm26 l Z a0 hw [] cx  h0 n0 O0 ) hZ (ox hw 209 rfl) (ox hw 208 rfl) (by decide) (by decide)) (g := (mkF m 49 #[vR a1, vI 1, vI 0, vU] [(.int 1), (.int 10), (.ref a1)])) rfl (by rw [hml]; rfl) (argsL := [(.int 10), (.int 1)]) (rest := [(.ref a1)]) (lenOf pd_4 rfl) rfl own_le0 (hb hby d25_49) (fun _ _ => ⟨rfl, e26, (by decide : 0 + 0 ≤ _), (by decide : 0 + 0 ≤ _)⟩)
  dsimp only [Pt.U, Pt.locs, Pt.cells, Pt.slots] at X28 l28 y28 z28 st28 hQ28
  subst l28 y28 z28
  obtain ⟨rfl, Nq28, eq28⟩ := hQ28
  have N29 := Fr.app N0 Nq28
  obtain ⟨T30, h30, k30, X30, e30, E30, A30, Ex30, O_30, st30⟩ := newRE X28 hx hZ hown (ox hw 210 rfl) (ox hw 211 rfl) eq28 (g := (mkF m 52 #[vR a1, vI 1, vI 0, vU] [(.int 10), (.ref a1)])) rfl (hb hby d25_52) rfl (by decide) (cap := 10) (by decide) (by decide) (by decide) (by decide) (ad := sk6) (by decide +kernel)
  obtain ⟨b30, g30⟩ : ∃ z, z = h0.size := ⟨_, rfl⟩
  rw [← g30] at A30 st30 Ex30
  have gg31 : n0 ≤ b30 := Nat.le_trans (O0.1 ▸ O0.2.1) (Nat.le_of_eq g30.symm)
  have sz32 : h0.size ≤ b30 := Nat.le_trans K0.1 (Nat.le_of_eq g30.symm)
  have O33 := O0.ext E30
  have K34 := K0.ext E30
  have V30 : Arv Z h30 b30 k30 (.object sk14) (10 : Int32) [.null, .null, .null, .null, .null, .null, .null, .null, .null, .null] .null := (Arv.new A30 (by decide)).pad (pad_rep [] .null 10)
  have f35 := (G0.ext E30)
  have f36 := (G2.ext E30)
  have q37 := fun t (kt : Go p e below T30 (mkF m 56 #[vR a1, vI 1, vI 0, vU] [(.ref b30), (.ref a1), (.ref b30)]) t) => q27 t (st28 t (st30 t (by
    show Go _ _ _ _ (mkF m 55 #[vR a1, vI 1, vI 0, vU] [(.ref b30), (.ref a1)]) _
    refine XS.dupX1 X30.here hx rfl (hb hby d25_55) rfl rfl rfl ?_
    exact kt)))
  obtain ⟨T38, h38, X38, e38, W38, st38⟩ := putF X30 hx hZ hown (host := "") (Or.inl (ox hw 73 rfl)) Via.refl e30 f36 f35 (Or.inl (ox hw 74 rfl)) (ox hw 52 rfl) (ty := (.array (.object sk14))) (by decide) rfl rfl (g := (mkF m 56 #[vR a1, vI 1, vI 0, vU] [(.ref b30), (.ref a1), (.ref b30)])) rfl rfl (hb hby d25_56)
  have f39 : Fld Z h38 a1 sk18 sk12 sk6 (.ref b30) := f36.same W38
  have N40 := Fr.snoc X38 N29 g_a1
  have O41 := O33.wr W38 g_a1
  have K42 := K34.wr W38 (Or.inl (List.mem_of_getElem? (i := 0) rfl))
  have q43 := fun t (kt : Go p e below T38 (mkF m 59 #[vR a1, vI 1, vI 0, vU] [(.ref b30)]) t) => q37 t (st38 t kt)
  have f44 := ((G1.ext E30).other W38 (Or.inr (slot_ne (Or.inl (ox hw 71 rfl)) (Or.inl (ox hw 74 rfl)) (by decide) (t := .int) (t' := (.array (.object sk14))) (by decide) (by decide))))
  have f45 := ((G3.ext E30).other W38 (Or.inr (slot_ne (Or.inl (ox hw 106 rfl)) (Or.inl (ox hw 74 rfl)) (by decide) (t := .int) (t' := (.array (.object sk14))) (by decide) (by decide))))
  have ne46 : a1 ≠ b30 := (Nat.ne_of_lt (Nat.lt_of_lt_of_le G0.lt (Nat.le_of_eq g30.symm)))
  have f47 := (V30.other W38 (Ne.symm ne46))
  have f48 := (Ex30.wr W38)
  exact ⟨some (.ref b30), T38, _, _, _, _, X38, by decide, by decide, nofun, q43, fun fs hr => retOut X38 hx hret rfl (o4 ⟨rfl, rfl, rfl⟩) (hb hby d25_59) hr, by rw [e38]; exact ⟨b30, k30, rfl, N40, K42, sz32, f44, f39, f45, f47, f48, O_30⟩⟩
theorem ef_24_R (m : MethodId) (x0 : Addr) : entryFrame m #[(.ref x0)] 1 = mkF m 0 #[.val (.ref x0)] [] := by first | (simp [entryFrame, mkF, argsToLocals, Value.category]; done) | rfl
theorem pn_24 : plainName "java/util/ArrayList" = true := by first | (simp [plainName, overriddenIn]; done) | decide +kernel
theorem d24_0 : decode jdk_38_method_7_code 0 = .ok (.aload_n 0, 1) := by decide +kernel
theorem d24_1 : decode jdk_38_method_7_code 1 = .ok (.aload_n 0, 1) := by decide +kernel
theorem d24_2 : decode jdk_38_method_7_code 2 = .ok (.getfield 48, 3) := by decide +kernel
theorem d24_5 : decode jdk_38_method_7_code 5 = .ok (.iconst 1, 1) := by decide +kernel
theorem d24_6 : decode jdk_38_method_7_code 6 = .ok (.iadd, 1) := by decide +kernel
theorem d24_7 : decode jdk_38_method_7_code 7 = .ok (.invokevirtual 69, 3) := by decide +kernel
theorem pd_5 : parseMethodDescriptor "(I)[Ljava/lang/Object;" = some ⟨[.int], some (.array (.object "java/lang/Object"))⟩ := by decide +kernel
theorem d24_10 : decode jdk_38_method_7_code 10 = .ok (.areturn, 1) := by decide +kernel
def Q_rm24 (Z : State) (a1 : Addr) (z : Int32) (cw : Nat → Nat) (z_cs : Int32) (h0 : Heap) (n0 : Nat) (v : Option Value) (h : Heap) (L : List Loc) : Prop := ∃ (b : Addr) (kb : ClassId), v = some (.ref b) ∧ Fr n0 L ∧ Keep h0 h [a1] ∧ h0.size ≤ b ∧ Fld Z h a1 sk17 "modCount" "I" (.int z) ∧ Fld Z h a1 sk18 sk12 sk6 (.ref b) ∧ Fld Z h a1 sk18 "size" "I" (.int 0) ∧ Arv Z h b kb (.object sk14) (10 : Int32) [.null, .null, .null, .null, .null, .null, .null, .null, .null, .null] .null ∧ Exa Z h b sk6 ∧ (Ovr Z kb sk14)
theorem rm24 (l : Launch) (Z : State) (a0 : Array Value) (hw : ∀ d ∈ tables_1, d.before a0 Z = true) (ws : List Jvm.Cond) {cw : Nat → Nat} {z_cs : Int32} (cx : Cx Z cw z_cs) (a1 : Addr) (z : Int32) (h0 : Heap) (n0 : Nat) (O0 : Old Z n0 h0) (G0 : Exa Z h0 a1 sk18) (G1 : Fld Z h0 a1 sk17 "modCount" "I" (.int z)) (G2 : Fld Z h0 a1 sk18 sk12 sk6 (.ref (cw 13))) (G3 : Fld Z h0 a1 sk18 "size" "I" (.int 0)) (g_a1 : n0 ≤ a1) :
    OwnMet l ym10 (Jvm.Cond.code ym10 jdk_38_method_7_code 1 (some (.array (.object sk14))) :: ws) (own_R 2 1 10 29) #[(.ref a1)] Z h0 (Q_rm24 Z a1 z cw z_cs h0 n0) := by
  refine own_body (plainFor_of_name pn_24) hisR fun p e s m below meth c s₁ hx hby hml hown hnm hret hZ X0 e0 => ?_
  have N0 := Fr.nil n0
  have K0 : Keep h0 h0 [a1] := Keep.refl _ _
  have pre0 : ∀ t, Go p e below s₁ (mkF m 0 #[vR a1] []) t → Go p e below s₁ (entryFrame m #[(.ref a1)] 1) t := fun t k => castTop (ef_24_R m a1) k
  have q21 := fun t (kt : Go p e below s₁ (mkF m 2 #[vR a1] [(.ref a1), (.ref a1)]) t) => pre0 t (by
    show Go _ _ _ _ (mkF m 0 #[vR a1] []) _
    refine XS.aloadN X0.here hx rfl (hb hby d24_0) rfl rfl ?_
    show Go _ _ _ _ (mkF m 1 _ [(.ref a1)]) _
    refine XS.aloadN X0.here hx rfl (hb hby d24_1) rfl rfl ?_
    exact kt)
  obtain ⟨T22, X22, e22, st22⟩ := getF X0 hx hZ hown (host := "") (Or.inl (ox hw 105 rfl)) Via.refl e0 G3 (g := (mkF m 2 #[vR a1] [(.ref a1), (.ref a1)])) rfl rfl (hb hby d24_2)
  have q23 := fun t (kt : Go p e below T22 (mkF m 7 #[vR a1] [(.int 1), (.ref a1)]) t) => q21 t (st22 t (by
    show Go _ _ _ _ (mkF m 5 #[vR a1] [(.int 0), (.ref a1)]) _
    refine XS.iconst X22.here hx rfl (hb hby d24_5) ?_
    show Go _ _ _ _ (mkF m 6 _ [(.int 1), (.int 0), (.ref a1)]) _
    refine XS.iadd X22.here hx rfl (hb hby d24_6) rfl ?_
    exact kt))
  obtain ⟨cq25, q25, q25'⟩ := G0.cell
  obtain ⟨_, _, ⟨T24, L24, k24, n24⟩, -, X24, ⟨_, hQ24, l24, y24, z24⟩, st24⟩ := X22.privateBack hx (y := ym9) hown (ow hZ hw 201 rfl) (ow hZ hw 202 rfl) (ow hZ hw 204 rfl) (Cond.privateMethod_at (mvP hZ (ox hw 203 rfl) (args := #[]))) (ow hZ hw 205 rfl) (by decide) (backOf (W := 0) (rm25 l Z a0 hw [] cx a1 z h0 n0 O0 G0 G1 G2 G3 g_a1) hZ (ox hw 205 rfl) (ox hw 53 rfl) (by decide) (by decide)) (g := (mkF m 7 #[vR a1] [(.int 1), (.ref a1)])) rfl (by rw [hml]; rfl) (Steps.refl _) (a := a1) (by rw [e22]; exact q25) q25' (argsL := [(.int 1)]) (rest := []) (lenOf pd_5 rfl) rfl own_le0 (hb hby d24_7) (fun _ _ => ⟨rfl, e22, (by decide : 0 + 1 ≤ _), (by decide : 0 + 10 ≤ _)⟩)
  dsimp only [Pt.U, Pt.locs, Pt.cells, Pt.slots] at X24 l24 y24 z24 st24 hQ24
  subst l24 y24 z24
  obtain ⟨b_24, kb_24, rfl, Nq24, Kq24, fr24_0, fq24_0, fq24_1, fq24_2, fq24_3, fq24_4, pq24_0⟩ := hQ24
  have N26 := Fr.app N0 Nq24
  have gg27 : n0 ≤ b_24 := Nat.le_trans (O0.1 ▸ O0.2.1) fr24_0
  have sz28 : h0.size ≤ b_24 := Nat.le_trans K0.1 fr24_0
  have O29 := O0.keep Kq24 (allS g_a1 all0)
  have K30 := K0.trans Kq24 (allS (Or.inl (List.mem_of_getElem? (i := 0) rfl)) all0)
  have q31 := fun t (kt : Go p e below T24 (mkF m 10 #[vR a1] [(.ref b_24)]) t) => q23 t (st24.trans kt)
  exact ⟨some (.ref b_24), T24, _, _, _, _, X24, by decide, by decide, nofun, q31, fun fs hr => retOut X24 hx hret rfl (o4 ⟨rfl, rfl, rfl⟩) (hb hby d24_10) hr, ⟨b_24, kb_24, rfl, N26, K30, sz28, fq24_0, fq24_1, fq24_2, fq24_3, fq24_4, pq24_0⟩⟩
theorem ef_23_RRRI (m : MethodId) (x0 : Addr) (x1 : Addr) (x2 : Addr) (x3 : Int32) : entryFrame m #[(.ref x0), (.ref x1), (.ref x2), (.int x3)] 4 = mkF m 0 #[.val (.ref x0), .val (.ref x1), .val (.ref x2), .val (.int x3)] [] := by first | (simp [entryFrame, mkF, argsToLocals, Value.category]; done) | rfl
theorem pn_23 : plainName "java/util/ArrayList" = true := by first | (simp [plainName, overriddenIn]; done) | decide +kernel
theorem d23_0 : decode jdk_38_method_24_code 0 = .ok (.iload_n 3, 1) := by decide +kernel
theorem d23_1 : decode jdk_38_method_24_code 1 = .ok (.aload_n 2, 1) := by decide +kernel
theorem d23_2 : decode jdk_38_method_24_code 2 = .ok (.arraylength, 1) := by decide +kernel
theorem d23_3 : decode jdk_38_method_24_code 3 = .ok (.if_icmp .ne 8, 3) := by decide +kernel
theorem d23_6 : decode jdk_38_method_24_code 6 = .ok (.aload_n 0, 1) := by decide +kernel
theorem d23_7 : decode jdk_38_method_24_code 7 = .ok (.invokevirtual 129, 3) := by decide +kernel
theorem pd_6 : parseMethodDescriptor "()[Ljava/lang/Object;" = some ⟨[], some (.array (.object "java/lang/Object"))⟩ := by decide +kernel
theorem d23_10 : decode jdk_38_method_24_code 10 = .ok (.astore_n 2, 1) := by decide +kernel
theorem d23_11 : decode jdk_38_method_24_code 11 = .ok (.aload_n 2, 1) := by decide +kernel
theorem d23_12 : decode jdk_38_method_24_code 12 = .ok (.iload_n 3, 1) := by decide +kernel
theorem d23_13 : decode jdk_38_method_24_code 13 = .ok (.aload_n 1, 1) := by decide +kernel
theorem d23_14 : decode jdk_38_method_24_code 14 = .ok (.aastore, 1) := by decide +kernel
theorem d23_15 : decode jdk_38_method_24_code 15 = .ok (.aload_n 0, 1) := by decide +kernel
theorem d23_16 : decode jdk_38_method_24_code 16 = .ok (.iload_n 3, 1) := by decide +kernel
theorem d23_17 : decode jdk_38_method_24_code 17 = .ok (.iconst 1, 1) := by decide +kernel
theorem d23_18 : decode jdk_38_method_24_code 18 = .ok (.iadd, 1) := by decide +kernel
theorem d23_19 : decode jdk_38_method_24_code 19 = .ok (.putfield 48, 3) := by decide +kernel
theorem d23_22 : decode jdk_38_method_24_code 22 = .ok (.return_, 1) := by decide +kernel
def Q_rm23_0 (Z : State) (K : String) (a1 : Addr) (a2 : Addr) (z : Int32) (cw : Nat → Nat) (z_cs : Int32) (h0 : Heap) (n0 : Nat) (v : Option Value) (h : Heap) (L : List Loc) : Prop := ∃ (b : Addr) (kb : ClassId), v = none ∧ Fr n0 L ∧ Keep h0 h [a1] ∧ h0.size ≤ b ∧ Fld Z h a1 sk17 "modCount" "I" (.int z) ∧ Fld Z h a1 sk18 sk12 sk6 (.ref b) ∧ Fld Z h a1 sk18 "size" "I" (.int 1) ∧ Arv Z h b kb (.object sk14) (10 : Int32) [(.ref a2), .null, .null, .null, .null, .null, .null, .null, .null, .null] .null ∧ Exa Z h b sk6 ∧ (Ovr Z kb sk14)
theorem rm23_0 (l : Launch) (Z : State) (a0 : Array Value) (hw : ∀ d ∈ tables_1, d.before a0 Z = true) (ws : List Jvm.Cond) {cw : Nat → Nat} {z_cs : Int32} (cx : Cx Z cw z_cs) (K : String) (a1 : Addr) (a2 : Addr) (z : Int32) (h0 : Heap) (n0 : Nat) (O0 : Old Z n0 h0) (G0 : Exa Z h0 a1 sk18) (G1 : Exa Z h0 a2 K) (G2 : Fld Z h0 a1 sk17 "modCount" "I" (.int z)) (G3 : Fld Z h0 a1 sk18 sk12 sk6 (.ref (cw 13))) (G4 : Fld Z h0 a1 sk18 "size" "I" (.int 0)) (g_a1 : n0 ≤ a1) (hC : (Jvm.Cond.castable K sk14).before a0 Z = true) :
    OwnMet l ym11 (Jvm.Cond.code ym11 jdk_38_method_24_code 4 none :: ws) (own_R 3 1 10 41) #[(.ref a1), (.ref a2), (.ref (cw 13)), (.int 0)] Z h0 (Q_rm23_0 Z K a1 a2 z cw z_cs h0 n0) := by
  refine own_body (plainFor_of_name pn_23) hisR fun p e s m below meth c s₁ hx hby hml hown hnm hret hZ X0 e0 => ?_
  have N0 := Fr.nil n0
  have K0 : Keep h0 h0 [a1] := Keep.refl _ _
  have pre0 : ∀ t, Go p e below s₁ (mkF m 0 #[vR a1, vR a2, vR (cw 13), vI 0] []) t → Go p e below s₁ (entryFrame m #[(.ref a1), (.ref a2), (.ref (cw 13)), (.int 0)] 4) t := fun t k => castTop (ef_23_RRRI m a1 a2 (cw 13) (0 : Int32)) k
  have q22 := fun t (kt : Go p e below s₁ (mkF m 2 #[vR a1, vR a2, vR (cw 13), vI 0] [(.ref (cw 13)), (.int 0)]) t) => pre0 t (by
    show Go _ _ _ _ (mkF m 0 #[vR a1, vR a2, vR (cw 13), vI 0] []) _
    refine XS.iloadN X0.here hx rfl (hb hby d23_0) rfl ?_
    show Go _ _ _ _ (mkF m 1 _ [(.int 0)]) _
    refine XS.aloadN X0.here hx rfl (hb hby d23_1) rfl rfl ?_
    exact kt)
  obtain ⟨c21, Ar21, -, S21, N21, -, -⟩ := id (cx.2.2.2.2.2.2.2.2.2.2.2.2.2.2.2.2.2.2.2.2.2.2.2.2.2.2.2.2.2.2.1.ext O0.2)
  have q23 := fun t (kt : Go p e below s₁ (mkF m 7 #[vR a1, vR a2, vR (cw 13), vI 0] [(.ref a1)]) t) => q22 t (by
    show Go _ _ _ _ (mkF m 2 #[vR a1, vR a2, vR (cw 13), vI 0] [(.ref (cw 13)), (.int 0)]) _
    refine X0.arraylength hx (by rw [e0]; exact Ar21.1) (State.isArrayOf_alike hZ.alike Ar21.2.1) (g := (mkF m 2 #[vR a1, vR a2, vR (cw 13), vI 0] [(.ref (cw 13)), (.int 0)])) rfl rfl (hb hby d23_2) _ ?_
    rw [len_of S21 N21]
    show Go _ _ _ _ (mkF m 3 _ [(.int 0), (.int 0)]) _
    refine XS.icmpNo X0.here hx rfl (hb hby d23_3) rfl (teq (rfl : (0 : Int32) = (0 : Int32))).2 ?_
    show Go _ _ _ _ (mkF m 6 _ []) _
    refine XS.aloadN X0.here hx rfl (hb hby d23_6) rfl rfl ?_
    exact kt)
  obtain ⟨cq25, q25, q25'⟩ := G0.cell
  obtain ⟨_, _, ⟨T24, L24, k24, n24⟩, -, X24, ⟨_, hQ24, l24, y24, z24⟩, st24⟩ := X0.privateBack hx (y := ym10) hown (ow hZ hw 196 rfl) (ow hZ hw 197 rfl) (ow hZ hw 199 rfl) (Cond.privateMethod_at (mvP hZ (ox hw 198 rfl) (args := #[]))) (ow hZ hw 200 rfl) (by decide) (backOf (W := 0) (rm24 l Z a0 hw [] cx a1 z h0 n0 O0 G0 G2 G3 G4 g_a1) hZ (ox hw 200 rfl) (ox hw 53 rfl) (by decide) (by decide)) (g := (mkF m 7 #[vR a1, vR a2, vR (cw 13), vI 0] [(.ref a1)])) rfl (by rw [hml]; rfl) (Steps.refl _) (a := a1) (by rw [e0]; exact q25) q25' (argsL := []) (rest := []) (lenOf pd_6 rfl) rfl own_le0 (hb hby d23_7) (fun _ _ => ⟨rfl, e0, (by decide : 0 + 1 ≤ _), (by decide : 0 + 10 ≤ _)⟩)
  dsimp only [Pt.U, Pt.locs, Pt.cells, Pt.slots] at X24 l24 y24 z24 st24 hQ24
  subst l24 y24 z24
  obtain ⟨b_24, kb_24, rfl, Nq24, Kq24, fr24_0, fq24_0, fq24_1, fq24_2, fq24_3, fq24_4, pq24_0⟩ := hQ24
  have N26 := Fr.app N0 Nq24
  have gg27 : n0 ≤ b_24 := Nat.le_trans (O0.1 ▸ O0.2.1) fr24_0
  have sz28 : h0.size ≤ b_24 := Nat.le_trans K0.1 fr24_0
  have O29 := O0.keep Kq24 (allS g_a1 all0)
  have K30 := K0.trans Kq24 (allS (Or.inl (List.mem_of_getElem? (i := 0) rfl)) all0)
  have q32 := fun t (kt : Go p e below T24 (mkF m 14 #[vR a1, vR a2, vR b_24, vI 0] [(.ref a2), (.int 0), (.ref b_24)]) t) => q23 t (st24.trans (by
    show Go _ _ _ _ (mkF m 10 #[vR a1, vR a2, vR (cw 13), vI 0] [(.ref b_24)]) _
    refine XS.astoreN X24.here hx rfl (hb hby d23_10) rfl rfl (l' := #[vR a1, vR a2, vR b_24, vI 0]) rfl ?_
    show Go _ _ _ _ (mkF m 11 #[vR a1, vR a2, vR b_24, vI 0] []) _
    refine XS.aloadN X24.here hx rfl (hb hby d23_11) rfl rfl ?_
    show Go _ _ _ _ (mkF m 12 _ [(.ref b_24)]) _
    refine XS.iloadN X24.here hx rfl (hb hby d23_12) rfl ?_
    show Go _ _ _ _ (mkF m 13 _ [(.int 0), (.ref b_24)]) _
    refine XS.aloadN X24.here hx rfl (hb hby d23_13) rfl rfl ?_
    exact kt))
  obtain ⟨c31, Ar31, q31, S31, N31, H31, G31⟩ := id fq24_3
  have hi31 : ¬ ((0 : Int32) < 0 ∨ c31.slots.size ≤ ((0 : Int32)).toNatClampNeg) := inb_of S31 ⟨by decide, by decide⟩
  have f33 := (G1.keep Kq24)
  obtain ⟨T34, h34, X34, e34, W34, st34⟩ := stR X24 hx hZ rfl Ar31 (j := (0 : Int32)) hi31 rfl (Sto.ofV Ar31 q31 pq24_0 (Ins.of_exa f33 hC)) (g := (mkF m 14 #[vR a1, vR a2, vR b_24, vI 0] [(.ref a2), (.int 0), (.ref b_24)])) rfl rfl (hb hby d23_14)
  have V34 : Arv Z h34 b_24 kb_24 (.object sk14) (10 : Int32) [(.ref a2), .null, .null, .null, .null, .null, .null, .null, .null, .null] .null := Arv.set Ar31 q31 S31 N31 H31 G31 rfl W34 0 rfl (Nat.le_of_ble_eq_true rfl)
  have N35 := Fr.snoc X34 N26 gg27
  have O36 := O29.wr W34 gg27
  have K37 := K30.wr W34 (Or.inr sz28)
  have f38 := ((G0.keep Kq24).wr W34)
  have ne39 : a1 ≠ b_24 := (Nat.ne_of_lt (Nat.lt_of_lt_of_le G0.lt fr24_0))
  have f40 := (fq24_2.other W34 (Or.inl ne39))
  have q41 := fun t (kt : Go p e below T34 (mkF m 19 #[vR a1, vR a2, vR b_24, vI 0] [(.int 1), (.ref a1)]) t) => q32 t (st34 t (by
    show Go _ _ _ _ (mkF m 15 #[vR a1, vR a2, vR b_24, vI 0] []) _
    refine XS.aloadN X34.here hx rfl (hb hby d23_15) rfl rfl ?_
    show Go _ _ _ _ (mkF m 16 _ [(.ref a1)]) _
    refine XS.iloadN X34.here hx rfl (hb hby d23_16) rfl ?_
    show Go _ _ _ _ (mkF m 17 _ [(.int 0), (.ref a1)]) _
    refine XS.iconst X34.here hx rfl (hb hby d23_17) ?_
    show Go _ _ _ _ (mkF m 18 _ [(.int 1), (.int 0), (.ref a1)]) _
    refine XS.iadd X34.here hx rfl (hb hby d23_18) rfl ?_
    exact kt))
  obtain ⟨T42, h42, X42, e42, W42, st42⟩ := putF X34 hx hZ hown (host := "") (Or.inl (ox hw 105 rfl)) Via.refl e34 f40 f38 (Or.inl (ox hw 106 rfl)) (ox hw 52 rfl) (ty := .int) (by decide) rfl rfl (g := (mkF m 19 #[vR a1, vR a2, vR b_24, vI 0] [(.int 1), (.ref a1)])) rfl rfl (hb hby d23_19)
  have f43 : Fld Z h42 a1 sk18 "size" "I" (.int 1) := f40.same W42
  have N44 := Fr.snoc X42 N35 g_a1
  have O45 := O36.wr W42 g_a1
  have K46 := K37.wr W42 (Or.inl (List.mem_of_getElem? (i := 0) rfl))
  have q47 := fun t (kt : Go p e below T42 (mkF m 22 #[vR a1, vR a2, vR b_24, vI 0] []) t) => q41 t (st42 t kt)
  have f48 := ((fq24_0.other W34 (Or.inl ne39)).other W42 (Or.inr (slot_ne (Or.inl (ox hw 71 rfl)) (Or.inl (ox hw 106 rfl)) (by decide) (t := .int) (t' := .int) (by decide) (by decide))))
  have f49 := ((fq24_1.other W34 (Or.inl ne39)).other W42 (Or.inr (slot_ne (Or.inl (ox hw 74 rfl)) (Or.inl (ox hw 106 rfl)) (by decide) (t := (.array (.object sk14))) (t' := .int) (by decide) (by decide))))
  have f50 := (V34.other W42 (Ne.symm ne39))
  have f51 := ((fq24_4.wr W34).wr W42)
  exact ⟨none, T42, _, _, _, _, X42, by decide, by decide, fun _ => rfl, q47, fun fs hr => X42.returnOut hx hret (hb hby d23_22) hr, by rw [e42]; exact ⟨b_24, kb_24, rfl, N44, K46, sz28, f48, f49, f43, f50, f51, pq24_0⟩⟩
theorem ef_22_RR (m : MethodId) (x0 : Addr) (x1 : Addr) : entryFrame m #[(.ref x0), (.ref x1)] 2 = mkF m 0 #[.val (.ref x0), .val (.ref x1)] [] := by first | (simp [entryFrame, mkF, argsToLocals, Value.category]; done) | rfl
theorem pn_22 : plainName "java/util/ArrayList" = true := by first | (simp [plainName, overriddenIn]; done) | decide +kernel
theorem d22_0 : decode jdk_38_method_25_code 0 = .ok (.aload_n 0, 1) := by decide +kernel
theorem d22_1 : decode jdk_38_method_25_code 1 = .ok (.dup, 1) := by decide +kernel
theorem d22_2 : decode jdk_38_method_25_code 2 = .ok (.getfield 63, 3) := by decide +kernel
theorem d22_5 : decode jdk_38_method_25_code 5 = .ok (.iconst 1, 1) := by decide +kernel
theorem d22_6 : decode jdk_38_method_25_code 6 = .ok (.iadd, 1) := by decide +kernel
theorem d22_7 : decode jdk_38_method_25_code 7 = .ok (.putfield 63, 3) := by decide +kernel
theorem d22_10 : decode jdk_38_method_25_code 10 = .ok (.aload_n 0, 1) := by decide +kernel
theorem d22_11 : decode jdk_38_method_25_code 11 = .ok (.aload_n 1, 1) := by decide +kernel
theorem d22_12 : decode jdk_38_method_25_code 12 = .ok (.aload_n 0, 1) := by decide +kernel
theorem d22_13 : decode jdk_38_method_25_code 13 = .ok (.getfield 9, 3) := by decide +kernel
theorem d22_16 : decode jdk_38_method_25_code 16 = .ok (.aload_n 0, 1) := by decide +kernel
theorem d22_17 : decode jdk_38_method_25_code 17 = .ok (.getfield 48, 3) := by decide +kernel
theorem d22_20 : decode jdk_38_method_25_code 20 = .ok (.invokevirtual 131, 3) := by decide +kernel
theorem pd_7 : parseMethodDescriptor "(Ljava/lang/Object;[Ljava/lang/Object;I)V" = some ⟨[(.object "java/lang/Object"), (.array (.object "java/lang/Object")), .int], none⟩ := by decide +kernel
theorem d22_23 : decode jdk_38_method_25_code 23 = .ok (.iconst 1, 1) := by decide +kernel
theorem d22_24 : decode jdk_38_method_25_code 24 = .ok (.ireturn, 1) := by decide +kernel
def Q_rm22_0 (Z : State) (K : String) (a1 : Addr) (a2 : Addr) (z : Int32) (cw : Nat → Nat) (z_cs : Int32) (h0 : Heap) (n0 : Nat) (v : Option Value) (h : Heap) (L : List Loc) : Prop := ∃ (b : Addr) (kb : ClassId) (z' : Int32), v = some (.int 1) ∧ Fr n0 L ∧ Keep h0 h [a1] ∧ h0.size ≤ b ∧ Fld Z h a1 sk17 "modCount" "I" (.int z') ∧ Fld Z h a1 sk18 sk12 sk6 (.ref b) ∧ Fld Z h a1 sk18 "size" "I" (.int 1) ∧ Arv Z h b kb (.object sk14) (10 : Int32) [(.ref a2), .null, .null, .null, .null, .null, .null, .null, .null, .null] .null ∧ Exa Z h b sk6 ∧ (Ovr Z kb sk14)
theorem rm22_0 (l : Launch) (Z : State) (a0 : Array Value) (hw : ∀ d ∈ tables_1, d.before a0 Z = true) (ws : List Jvm.Cond) {cw : Nat → Nat} {z_cs : Int32} (cx : Cx Z cw z_cs) (K : String) (a1 : Addr) (a2 : Addr) (z : Int32) (h0 : Heap) (n0 : Nat) (O0 : Old Z n0 h0) (G0 : Exa Z h0 a1 sk18) (G1 : Exa Z h0 a2 K) (G2 : Fld Z h0 a1 sk17 "modCount" "I" (.int z)) (G3 : Fld Z h0 a1 sk18 sk12 sk6 (.ref (cw 13))) (G4 : Fld Z h0 a1 sk18 "size" "I" (.int 0)) (g_a1 : n0 ≤ a1) (hC : (Jvm.Cond.castable K sk14).before a0 Z = true) :
    OwnMet l ym12 (Jvm.Cond.code ym12 jdk_38_method_25_code 2 (some .boolean) :: ws) (own_R 4 1 10 56) #[(.ref a1), (.ref a2)] Z h0 (Q_rm22_0 Z K a1 a2 z cw z_cs h0 n0) := by
  refine own_body (plainFor_of_name pn_22) hisR fun p e s m below meth c s₁ hx hby hml hown hnm hret hZ X0 e0 => ?_
  have N0 := Fr.nil n0
  have K0 : Keep h0 h0 [a1] := Keep.refl _ _
  have pre0 : ∀ t, Go p e below s₁ (mkF m 0 #[vR a1, vR a2] []) t → Go p e below s₁ (entryFrame m #[(.ref a1), (.ref a2)] 2) t := fun t k => castTop (ef_22_RR m a1 a2) k
  have q21 := fun t (kt : Go p e below s₁ (mkF m 2 #[vR a1, vR a2] [(.ref a1), (.ref a1)]) t) => pre0 t (by
    show Go _ _ _ _ (mkF m 0 #[vR a1, vR a2] []) _
    refine XS.aloadN X0.here hx rfl (hb hby d22_0) rfl rfl ?_
    show Go _ _ _ _ (mkF m 1 _ [(.ref a1)]) _
    refine XS.dup X0.here hx rfl (hb hby d22_1) rfl rfl ?_
    exact kt)
  obtain ⟨T22, X22, e22, st22⟩ := getF X0 hx hZ hown (host := "") (Or.inl (ox hw 189 rfl)) (Via.of (ox hw 190 rfl)) e0 G2 (g := (mkF m 2 #[vR a1, vR a2] [(.ref a1), (.ref a1)])) rfl rfl (hb hby d22_2)
  have q23 := fun t (kt : Go p e below T22 (mkF m 7 #[vR a1, vR a2] [(.int (z + (1 : Int32))), (.ref a1)]) t) => q21 t (st22 t (by
    show Go _ _ _ _ (mkF m 5 #[vR a1, vR a2] [(.int z), (.ref a1)]) _
    refine XS.iconst X22.here hx rfl (hb hby d22_5) ?_
    show Go _ _ _ _ (mkF m 6 _ [(.int 1), (.int z), (.ref a1)]) _
    refine XS.iadd X22.here hx rfl (hb hby d22_6) rfl ?_
    exact kt))
  obtain ⟨T24, h24, X24, e24, W24, st24⟩ := putF X22 hx hZ hown (host := "") (Or.inl (ox hw 189 rfl)) (Via.of (ox hw 190 rfl)) e22 G2 G0 (Or.inl (ox hw 71 rfl)) (ox hw 52 rfl) (ty := .int) (by decide) rfl rfl (g := (mkF m 7 #[vR a1, vR a2] [(.int (z + (1 : Int32))), (.ref a1)])) rfl rfl (hb hby d22_7)
  have f25 : Fld Z h24 a1 sk17 "modCount" "I" (.int (z + (1 : Int32))) := G2.same W24
  have N26 := Fr.snoc X24 N0 g_a1
  have O27 := O0.wr W24 g_a1
  have K28 := K0.wr W24 (Or.inl (List.mem_of_getElem? (i := 0) rfl))
  have f29 := (G3.other W24 (Or.inr (slot_ne (Or.inl (ox hw 74 rfl)) (Or.inl (ox hw 71 rfl)) (by decide) (t := (.array (.object sk14))) (t' := .int) (by decide) (by decide))))
  have q30 := fun t (kt : Go p e below T24 (mkF m 13 #[vR a1, vR a2] [(.ref a1), (.ref a2), (.ref a1)]) t) => q23 t (st24 t (by
    show Go _ _ _ _ (mkF m 10 #[vR a1, vR a2] []) _
    refine XS.aloadN X24.here hx rfl (hb hby d22_10) rfl rfl ?_
    show Go _ _ _ _ (mkF m 11 _ [(.ref a1)]) _
    refine XS.aloadN X24.here hx rfl (hb hby d22_11) rfl rfl ?_
    show Go _ _ _ _ (mkF m 12 _ [(.ref a2), (.ref a1)]) _
    refine XS.aloadN X24.here hx rfl (hb hby d22_12) rfl rfl ?_
    exact kt))
  obtain ⟨T31, X31, e31, st31⟩ := getF X24 hx hZ hown (host := "") (Or.inl (ox hw 73 rfl)) Via.refl e24 f29 (g := (mkF m 13 #[vR a1, vR a2] [(.ref a1), (.ref a2), (.ref a1)])) rfl rfl (hb hby d22_13)
  have f32 := (G4.other W24 (Or.inr (slot_ne (Or.inl (ox hw 106 rfl)) (Or.inl (ox hw 71 rfl)) (by decide) (t := .int) (t' := .int) (by decide) (by decide))))
  have q33 := fun t (kt : Go p e below T31 (mkF m 17 #[vR a1, vR a2] [(.ref a1), (.ref (cw 13)), (.ref a2), (.ref a1)]) t) => q30 t (st31 t (by
    show Go _ _ _ _ (mkF m 16 #[vR a1, vR a2] [(.ref (cw 13)), (.ref a2), (.ref a1)]) _
    refine XS.aloadN X31.here hx rfl (hb hby d22_16) rfl rfl ?_
    exact kt))
  obtain ⟨T34, X34, e34, st34⟩ := getF X31 hx hZ hown (host := "") (Or.inl (ox hw 105 rfl)) Via.refl e31 f32 (g := (mkF m 17 #[vR a1, vR a2] [(.ref a1), (.ref (cw 13)), (.ref a2), (.ref a1)])) rfl rfl (hb hby d22_17)
  have f35 := (G0.wr W24)
  have f36 := (G1.wr W24)
  obtain ⟨cq38, q38, q38'⟩ := f35.cell
  obtain ⟨_, _, ⟨T37, L37, k37, n37⟩, -, X37, ⟨_, hQ37, l37, y37, z37⟩, st37⟩ := X34.privateBack hx (y := ym11) hown (ow hZ hw 191 rfl) (ow hZ hw 192 rfl) (ow hZ hw 194 rfl) (Cond.privateMethod_at (mvP hZ (ox hw 193 rfl) (args := #[]))) (ow hZ hw 195 rfl) (by decide) (backOf (W := 0) (rm23_0 l Z a0 hw [] cx K a1 a2 (z + (1 : Int32)) h24 n0 O27 f35 f36 f25 f29 f32 g_a1 hC) hZ (ox hw 195 rfl) (ox hw 53 rfl) (by decide) (by decide)) (g := (mkF m 20 #[vR a1, vR a2] [(.int 0), (.ref (cw 13)), (.ref a2), (.ref a1)])) rfl (by rw [hml]; rfl) (Steps.refl _) (a := a1) (by rw [e34]; exact q38) q38' (argsL := [(.ref a2), (.ref (cw 13)), (.int 0)]) (rest := []) (lenOf pd_7 rfl) rfl own_le0 (hb hby d22_20) (fun _ _ => ⟨rfl, e34, (by decide : 0 + 1 ≤ _), (by decide : 0 + 10 ≤ _)⟩)
  dsimp only [Pt.U, Pt.locs, Pt.cells, Pt.slots] at X37 l37 y37 z37 st37 hQ37
  subst l37 y37 z37
  obtain ⟨b_37, kb_37, rfl, Nq37, Kq37, fr37_0, fq37_0, fq37_1, fq37_2, fq37_3, fq37_4, pq37_0⟩ := hQ37
  have N39 := Fr.app N26 Nq37
  have gg40 : n0 ≤ b_37 := Nat.le_trans (O27.1 ▸ O27.2.1) fr37_0
  have sz41 : h0.size ≤ b_37 := Nat.le_trans K28.1 fr37_0
  have O42 := O27.keep Kq37 (allS g_a1 all0)
  have K43 := K28.trans Kq37 (allS (Or.inl (List.mem_of_getElem? (i := 0) rfl)) all0)
  have q44 := fun t (kt : Go p e below T37 (mkF m 24 #[vR a1, vR a2] [(.int 1)]) t) => q33 t (st34 t (st37.trans (by
    show Go _ _ _ _ (mkF m 23 #[vR a1, vR a2] []) _
    refine XS.iconst X37.here hx rfl (hb hby d22_23) ?_
    exact kt)))
  exact ⟨some (.int 1), T37, _, _, _, _, X37, by decide, by decide, nofun, q44, fun fs hr => retN X37 hx (t := .boolean) hret (by simp) (hb hby d22_24) hr, ⟨b_37, kb_37, (z + (1 : Int32)), rfl, N39, K43, sz41, fq37_0, fq37_1, fq37_2, fq37_3, fq37_4, pq37_0⟩⟩
def Q_rm23_1 (Z : State) (a1 : Addr) (a2 : Addr) (b : Addr) (x1 : Addr) (kb : ClassId) (z : Int32) (cw : Nat → Nat) (z_cs : Int32) (h0 : Heap) (n0 : Nat) (v : Option Value) (h : Heap) (L : List Loc) : Prop := v = none ∧ Fr n0 L ∧ Keep h0 h [a1, b] ∧ Fld Z h a1 sk17 "modCount" "I" (.int z) ∧ Fld Z h a1 sk18 sk12 sk6 (.ref b) ∧ Fld Z h a1 sk18 "size" "I" (.int 2) ∧ Arv Z h b kb (.object sk14) (10 : Int32) [(.ref x1), (.ref a2), .null, .null, .null, .null, .null, .null, .null, .null] .null ∧ (Ovr Z kb sk14)
theorem rm23_1 (l : Launch) (Z : State) (a0 : Array Value) (hw : ∀ d ∈ tables_1, d.before a0 Z = true) (ws : List Jvm.Cond) {cw : Nat → Nat} {z_cs : Int32} (cx : Cx Z cw z_cs) (a1 : Addr) (a2 : Addr) (b : Addr) (x1 : Addr) (kb : ClassId) (z : Int32) (h0 : Heap) (n0 : Nat) (O0 : Old Z n0 h0) (G0 : Exa Z h0 a1 sk18) (G1 : Exa Z h0 a2 sk9) (G2 : Fld Z h0 a1 sk17 "modCount" "I" (.int z)) (G3 : Fld Z h0 a1 sk18 sk12 sk6 (.ref b)) (G4 : Fld Z h0 a1 sk18 "size" "I" (.int 1)) (G5 : Arv Z h0 b kb (.object sk14) (10 : Int32) [(.ref x1), .null, .null, .null, .null, .null, .null, .null, .null, .null] .null) (g_a1 : n0 ≤ a1) (g_b : n0 ≤ b) (ov : Ovr Z kb sk14) (hab : a1 ≠ b) :
    OwnMet l ym11 (Jvm.Cond.code ym11 jdk_38_method_24_code 4 none :: ws) (own_R 0 0 0 0) #[(.ref a1), (.ref a2), (.ref b), (.int 1)] Z h0 (Q_rm23_1 Z a1 a2 b x1 kb z cw z_cs h0 n0) := by
  refine own_body (plainFor_of_name pn_23) hisR fun p e s m below meth c s₁ hx hby hml hown hnm hret hZ X0 e0 => ?_
  have N0 := Fr.nil n0
  have K0 : Keep h0 h0 [a1, b] := Keep.refl _ _
  have pre0 : ∀ t, Go p e below s₁ (mkF m 0 #[vR a1, vR a2, vR b, vI 1] []) t → Go p e below s₁ (entryFrame m #[(.ref a1), (.ref a2), (.ref b), (.int 1)] 4) t := fun t k => castTop (ef_23_RRRI m a1 a2 b (1 : Int32)) k
  have q22 := fun t (kt : Go p e below s₁ (mkF m 2 #[vR a1, vR a2, vR b, vI 1] [(.ref b), (.int 1)]) t) => pre0 t (by
    show Go _ _ _ _ (mkF m 0 #[vR a1, vR a2, vR b, vI 1] []) _
    refine XS.iloadN X0.here hx rfl (hb hby d23_0) rfl ?_
    show Go _ _ _ _ (mkF m 1 _ [(.int 1)]) _
    refine XS.aloadN X0.here hx rfl (hb hby d23_1) rfl rfl ?_
    exact kt)
  obtain ⟨c21, Ar21, -, S21, N21, -, -⟩ := id G5
  have q24 := fun t (kt : Go p e below s₁ (mkF m 14 #[vR a1, vR a2, vR b, vI 1] [(.ref a2), (.int 1), (.ref b)]) t) => q22 t (by
    show Go _ _ _ _ (mkF m 2 #[vR a1, vR a2, vR b, vI 1] [(.ref b), (.int 1)]) _
    refine X0.arraylength hx (by rw [e0]; exact Ar21.1) (State.isArrayOf_alike hZ.alike Ar21.2.1) (g := (mkF m 2 #[vR a1, vR a2, vR b, vI 1] [(.ref b), (.int 1)])) rfl rfl (hb hby d23_2) _ ?_
    rw [len_of S21 N21]
    show Go _ _ _ _ (mkF m 3 _ [(.int 10), (.int 1)]) _
    refine XS.icmpYes X0.here hx rfl (pc0 := 3) (pc' := 11) rfl (hb hby d23_3) rfl (feq (by decide : ¬ ((1 : Int32) = (10 : Int32)))).2 (by decide) (by decide) ?_
    show Go _ _ _ _ (mkF m 11 _ []) _
    refine XS.aloadN X0.here hx rfl (hb hby d23_11) rfl rfl ?_
    show Go _ _ _ _ (mkF m 12 _ [(.ref b)]) _
    refine XS.iloadN X0.here hx rfl (hb hby d23_12) rfl ?_
    show Go _ _ _ _ (mkF m 13 _ [(.int 1), (.ref b)]) _
    refine XS.aloadN X0.here hx rfl (hb hby d23_13) rfl rfl ?_
    exact kt)
  obtain ⟨c23, Ar23, q23, S23, N23, H23, G23⟩ := id G5
  have hi23 : ¬ ((1 : Int32) < 0 ∨ c23.slots.size ≤ ((1 : Int32)).toNatClampNeg) := inb_of S23 ⟨by decide, by decide⟩
  obtain ⟨T25, h25, X25, e25, W25, st25⟩ := stR X0 hx hZ e0 Ar23 (j := (1 : Int32)) hi23 rfl (Sto.ofV Ar23 q23 ov (Ins.of_exa G1 (ox hw 212 rfl))) (g := (mkF m 14 #[vR a1, vR a2, vR b, vI 1] [(.ref a2), (.int 1), (.ref b)])) rfl rfl (hb hby d23_14)
  have V25 : Arv Z h25 b kb (.object sk14) (10 : Int32) [(.ref x1), (.ref a2), .null, .null, .null, .null, .null, .null, .null, .null] .null := Arv.set Ar23 q23 S23 N23 H23 G23 rfl W25 1 rfl (Nat.le_of_ble_eq_true rfl)
  have N26 := Fr.snoc X25 N0 g_b
  have O27 := O0.wr W25 g_b
  have K28 := K0.wr W25 (Or.inl (List.mem_of_getElem? (i := 1) rfl))
  have f29 := (G0.wr W25)
  have f30 := (G4.other W25 (Or.inl hab))
  have q31 := fun t (kt : Go p e below T25 (mkF m 19 #[vR a1, vR a2, vR b, vI 1] [(.int 2), (.ref a1)]) t) => q24 t (st25 t (by
    show Go _ _ _ _ (mkF m 15 #[vR a1, vR a2, vR b, vI 1] []) _
    refine XS.aloadN X25.here hx rfl (hb hby d23_15) rfl rfl ?_
    show Go _ _ _ _ (mkF m 16 _ [(.ref a1)]) _
    refine XS.iloadN X25.here hx rfl (hb hby d23_16) rfl ?_
    show Go _ _ _ _ (mkF m 17 _ [(.int 1), (.ref a1)]) _
    refine XS.iconst X25.here hx rfl (hb hby d23_17) ?_
    show Go _ _ _ _ (mkF m 18 _ [(.int 1), (.int 1), (.ref a1)]) _
    refine XS.iadd X25.here hx rfl (hb hby d23_18) rfl ?_
    exact kt))
  obtain ⟨T32, h32, X32, e32, W32, st32⟩ := putF X25 hx hZ hown (host := "") (Or.inl (ox hw 105 rfl)) Via.refl e25 f30 f29 (Or.inl (ox hw 106 rfl)) (ox hw 52 rfl) (ty := .int) (by decide) rfl rfl (g := (mkF m 19 #[vR a1, vR a2, vR b, vI 1] [(.int 2), (.ref a1)])) rfl rfl (hb hby d23_19)
  have f33 : Fld Z h32 a1 sk18 "size" "I" (.int 2) := f30.same W32
  have N34 := Fr.snoc X32 N26 g_a1
  have O35 := O27.wr W32 g_a1
  have K36 := K28.wr W32 (Or.inl (List.mem_of_getElem? (i := 0) rfl))
  have q37 := fun t (kt : Go p e below T32 (mkF m 22 #[vR a1, vR a2, vR b, vI 1] []) t) => q31 t (st32 t kt)
  have f38 := ((G2.other W25 (Or.inl hab)).other W32 (Or.inr (slot_ne (Or.inl (ox hw 71 rfl)) (Or.inl (ox hw 106 rfl)) (by decide) (t := .int) (t' := .int) (by decide) (by decide))))
  have f39 := ((G3.other W25 (Or.inl hab)).other W32 (Or.inr (slot_ne (Or.inl (ox hw 74 rfl)) (Or.inl (ox hw 106 rfl)) (by decide) (t := (.array (.object sk14))) (t' := .int) (by decide) (by decide))))
  have f40 := (V25.other W32 (Ne.symm hab))
  exact ⟨none, T32, _, _, _, _, X32, by decide, by decide, fun _ => rfl, q37, fun fs hr => X32.returnOut hx hret (hb hby d23_22) hr, by rw [e32]; exact ⟨rfl, N34, K36, f38, f39, f33, f40, ov⟩⟩
def Q_rm22_1 (Z : State) (a1 : Addr) (a2 : Addr) (b : Addr) (x1 : Addr) (kb : ClassId) (z : Int32) (cw : Nat → Nat) (z_cs : Int32) (h0 : Heap) (n0 : Nat) (v : Option Value) (h : Heap) (L : List Loc) : Prop := ∃ (z' : Int32), v = some (.int 1) ∧ Fr n0 L ∧ Keep h0 h [a1, b] ∧ Fld Z h a1 sk17 "modCount" "I" (.int z') ∧ Fld Z h a1 sk18 sk12 sk6 (.ref b) ∧ Fld Z h a1 sk18 "size" "I" (.int 2) ∧ Arv Z h b kb (.object sk14) (10 : Int32) [(.ref x1), (.ref a2), .null, .null, .null, .null, .null, .null, .null, .null] .null ∧ (Ovr Z kb sk14)
theorem rm22_1 (l : Launch) (Z : State) (a0 : Array Value) (hw : ∀ d ∈ tables_1, d.before a0 Z = true) (ws : List Jvm.Cond) {cw : Nat → Nat} {z_cs : Int32} (cx : Cx Z cw z_cs) (a1 : Addr) (a2 : Addr) (b : Addr) (x1 : Addr) (kb : ClassId) (z : Int32) (h0 : Heap) (n0 : Nat) (O0 : Old Z n0 h0) (G0 : Exa Z h0 a1 sk18) (G1 : Exa Z h0 a2 sk9) (G2 : Fld Z h0 a1 sk17 "modCount" "I" (.int z)) (G3 : Fld Z h0 a1 sk18 sk12 sk6 (.ref b)) (G4 : Fld Z h0 a1 sk18 "size" "I" (.int 1)) (G5 : Arv Z h0 b kb (.object sk14) (10 : Int32) [(.ref x1), .null, .null, .null, .null, .null, .null, .null, .null, .null] .null) (g_a1 : n0 ≤ a1) (g_b : n0 ≤ b) (ov : Ovr Z kb sk14) (hab : a1 ≠ b) :
    OwnMet l ym12 (Jvm.Cond.code ym12 jdk_38_method_25_code 2 (some .boolean) :: ws) (own_R 1 0 0 15) #[(.ref a1), (.ref a2)] Z h0 (Q_rm22_1 Z a1 a2 b x1 kb z cw z_cs h0 n0) := by
  refine own_body (plainFor_of_name pn_22) hisR fun p e s m below meth c s₁ hx hby hml hown hnm hret hZ X0 e0 => ?_
  have N0 := Fr.nil n0
  have K0 : Keep h0 h0 [a1, b] := Keep.refl _ _
  have pre0 : ∀ t, Go p e below s₁ (mkF m 0 #[vR a1, vR a2] []) t → Go p e below s₁ (entryFrame m #[(.ref a1), (.ref a2)] 2) t := fun t k => castTop (ef_22_RR m a1 a2) k
  have q21 := fun t (kt : Go p e below s₁ (mkF m 2 #[vR a1, vR a2] [(.ref a1), (.ref a1)]) t) => pre0 t (by
    show Go _ _ _ _ (mkF m 0 #[vR a1, vR a2] []) _
    refine XS.aloadN X0.here hx rfl (hb hby d22_0) rfl rfl ?_
    show Go _ _ _ _ (mkF m 1 _ [(.ref a1)]) _
    refine XS.dup X0.here hx rfl (hb hby d22_1) rfl rfl ?_
    exact kt)
  obtain ⟨T22, X22, e22, st22⟩ := getF X0 hx hZ hown (host := "") (Or.inl (ox hw 189 rfl)) (Via.of (ox hw 190 rfl)) e0 G2 (g := (mkF m 2 #[vR a1, vR a2] [(.ref a1), (.ref a1)])) rfl rfl (hb hby d22_2)
  have q23 := fun t (kt : Go p e below T22 (mkF m 7 #[vR a1, vR a2] [(.int (z + (1 : Int32))), (.ref a1)]) t) => q21 t (st22 t (by
    show Go _ _ _ _ (mkF m 5 #[vR a1, vR a2] [(.int z), (.ref a1)]) _
    refine XS.iconst X22.here hx rfl (hb hby d22_5) ?_
    show Go _ _ _ _ (mkF m 6 _ [(.int 1), (.int z), (.ref a1)]) _
    refine XS.iadd X22.here hx rfl (hb hby d22_6) rfl ?_
    exact kt))
  obtain ⟨T24, h24, X24, e24, W24, st24⟩ := putF X22 hx hZ hown (host := "") (Or.inl (ox hw 189 rfl)) (Via.of (ox hw 190 rfl)) e22 G2 G0 (Or.inl (ox hw 71 rfl)) (ox hw 52 rfl) (ty := .int) (by decide) rfl rfl (g := (mkF m 7 #[vR a1, vR a2] [(.int (z + (1 : Int32))), (.ref a1)])) rfl rfl (hb hby d22_7)
  have f25 : Fld Z h24 a1 sk17 "modCount" "I" (.int (z + (1 : Int32))) := G2.same W24
  have N26 := Fr.snoc X24 N0 g_a1
  have O27 := O0.wr W24 g_a1
  have K28 := K0.wr W24 (Or.inl (List.mem_of_getElem? (i := 0) rfl))
  have f29 := (G3.other W24 (Or.inr (slot_ne (Or.inl (ox hw 74 rfl)) (Or.inl (ox hw 71 rfl)) (by decide) (t := (.array (.object sk14))) (t' := .int) (by decide) (by decide))))
  have q30 := fun t (kt : Go p e below T24 (mkF m 13 #[vR a1, vR a2] [(.ref a1), (.ref a2), (.ref a1)]) t) => q23 t (st24 t (by
    show Go _ _ _ _ (mkF m 10 #[vR a1, vR a2] []) _
    refine XS.aloadN X24.here hx rfl (hb hby d22_10) rfl rfl ?_
    show Go _ _ _ _ (mkF m 11 _ [(.ref a1)]) _
    refine XS.aloadN X24.here hx rfl (hb hby d22_11) rfl rfl ?_
    show Go _ _ _ _ (mkF m 12 _ [(.ref a2), (.ref a1)]) _
    refine XS.aloadN X24.here hx rfl (hb hby d22_12) rfl rfl ?_
    exact kt))
  obtain ⟨T31, X31, e31, st31⟩ := getF X24 hx hZ hown (host := "") (Or.inl (ox hw 73 rfl)) Via.refl e24 f29 (g := (mkF m 13 #[vR a1, vR a2] [(.ref a1), (.ref a2), (.ref a1)])) rfl rfl (hb hby d22_13)
  have f32 := (G4.other W24 (Or.inr (slot_ne (Or.inl (ox hw 106 rfl)) (Or.inl (ox hw 71 rfl)) (by decide) (t := .int) (t' := .int) (by decide) (by decide))))
  have q33 := fun t (kt : Go p e below T31 (mkF m 17 #[vR a1, vR a2] [(.ref a1), (.ref b), (.ref a2), (.ref a1)]) t) => q30 t (st31 t (by
    show Go _ _ _ _ (mkF m 16 #[vR a1, vR a2] [(.ref b), (.ref a2), (.ref a1)]) _
    refine XS.aloadN X31.here hx rfl (hb hby d22_16) rfl rfl ?_
    exact kt))
  obtain ⟨T34, X34, e34, st34⟩ := getF X31 hx hZ hown (host := "") (Or.inl (ox hw 105 rfl)) Via.refl e31 f32 (g := (mkF m 17 #[vR a1, vR a2] [(.ref a1), (.ref b), (.ref a2), (.ref a1)])) rfl rfl (hb hby d22_17)
  have f35 := (G0.wr W24)
  have f36 := (G1.wr W24)
  have f37 := (G5.other W24 (Ne.symm hab))
  obtain ⟨cq39, q39, q39'⟩ := f35.cell
  obtain ⟨_, _, ⟨T38, L38, k38, n38⟩, -, X38, ⟨_, hQ38, l38, y38, z38⟩, st38⟩ := X34.privateBack hx (y := ym11) hown (ow hZ hw 191 rfl) (ow hZ hw 192 rfl) (ow hZ hw 194 rfl) (Cond.privateMethod_at (mvP hZ (ox hw 193 rfl) (args := #[]))) (ow hZ hw 195 rfl) (by decide) (backOf (W := 0) (rm23_1 l Z a0 hw [] cx a1 a2 b x1 kb (z + (1 : Int32)) h24 n0 O27 f35 f36 f25 f29 f32 f37 g_a1 g_b ov hab) hZ (ox hw 195 rfl) (ox hw 53 rfl) (by decide) (by decide)) (g := (mkF m 20 #[vR a1, vR a2] [(.int 1), (.ref b), (.ref a2), (.ref a1)])) rfl (by rw [hml]; rfl) (Steps.refl _) (a := a1) (by rw [e34]; exact q39) q39' (argsL := [(.ref a2), (.ref b), (.int 1)]) (rest := []) (lenOf pd_7 rfl) rfl own_le0 (hb hby d22_20) (fun _ _ => ⟨rfl, e34, (by decide : 0 + 0 ≤ _), (by decide : 0 + 0 ≤ _)⟩)
  dsimp only [Pt.U, Pt.locs, Pt.cells, Pt.slots] at X38 l38 y38 z38 st38 hQ38
  subst l38 y38 z38
  obtain ⟨rfl, Nq38, Kq38, fq38_0, fq38_1, fq38_2, fq38_3, pq38_0⟩ := hQ38
  have N40 := Fr.app N26 Nq38
  have O41 := O27.keep Kq38 (allS g_a1 (allS g_b all0))
  have K42 := K28.trans Kq38 (allS (Or.inl (List.mem_of_getElem? (i := 0) rfl)) (allS (Or.inl (List.mem_of_getElem? (i := 1) rfl)) all0))
  have q43 := fun t (kt : Go p e below T38 (mkF m 24 #[vR a1, vR a2] [(.int 1)]) t) => q33 t (st34 t (st38.trans (by
    show Go _ _ _ _ (mkF m 23 #[vR a1, vR a2] []) _
    refine XS.iconst X38.here hx rfl (hb hby d22_23) ?_
    exact kt)))
  exact ⟨some (.int 1), T38, _, _, _, _, X38, by decide, by decide, nofun, q43, fun fs hr => retN X38 hx (t := .boolean) hret (by simp) (hb hby d22_24) hr, ⟨(z + (1 : Int32)), rfl, N40, K42, fq38_0, fq38_1, fq38_2, fq38_3, pq38_0⟩⟩
def Q_rm23_2 (Z : State) (a1 : Addr) (a2 : Addr) (b : Addr) (x1 : Addr) (x2 : Addr) (kb : ClassId) (z : Int32) (cw : Nat → Nat) (z_cs : Int32) (h0 : Heap) (n0 : Nat) (v : Option Value) (h : Heap) (L : List Loc) : Prop := v = none ∧ Fr n0 L ∧ Keep h0 h [a1, b] ∧ Fld Z h a1 sk17 "modCount" "I" (.int z) ∧ Fld Z h a1 sk18 sk12 sk6 (.ref b) ∧ Fld Z h a1 sk18 "size" "I" (.int 3) ∧ Arv Z h b kb (.object sk14) (10 : Int32) [(.ref x1), (.ref x2), (.ref a2), .null, .null, .null, .null, .null, .null, .null] .null ∧ (Ovr Z kb sk14)
theorem rm23_2 (l : Launch) (Z : State) (a0 : Array Value) (hw : ∀ d ∈ tables_1, d.before a0 Z = true) (ws : List Jvm.Cond) {cw : Nat → Nat} {z_cs : Int32} (cx : Cx Z cw z_cs) (a1 : Addr) (a2 : Addr) (b : Addr) (x1 : Addr) (x2 : Addr) (kb : ClassId) (z : Int32) (h0 : Heap) (n0 : Nat) (O0 : Old Z n0 h0) (G0 : Exa Z h0 a1 sk18) (G1 : Exa Z h0 a2 sk9) (G2 : Fld Z h0 a1 sk17 "modCount" "I" (.int z)) (G3 : Fld Z h0 a1 sk18 sk12 sk6 (.ref b)) (G4 : Fld Z h0 a1 sk18 "size" "I" (.int 2)) (G5 : Arv Z h0 b kb (.object sk14) (10 : Int32) [(.ref x1), (.ref x2), .null, .null, .null, .null, .null, .null, .null, .null] .null) (g_a1 : n0 ≤ a1) (g_b : n0 ≤ b) (ov : Ovr Z kb sk14) (hab : a1 ≠ b) :
    OwnMet l ym11 (Jvm.Cond.code ym11 jdk_38_method_24_code 4 none :: ws) (own_R 0 0 0 0) #[(.ref a1), (.ref a2), (.ref b), (.int 2)] Z h0 (Q_rm23_2 Z a1 a2 b x1 x2 kb z cw z_cs h0 n0) := by
  refine own_body (plainFor_of_name pn_23) hisR fun p e s m below meth c s₁ hx hby hml hown hnm hret hZ X0 e0 => ?_
  have N0 := Fr.nil n0
  have K0 : Keep h0 h0 [a1, b] := Keep.refl _ _
  have pre0 : ∀ t, Go p e below s₁ (mkF m 0 #[vR a1, vR a2, vR b, vI 2] []) t → Go p e below s₁ (entryFrame m #[(.ref a1), (.ref a2), (.ref b), (.int 2)] 4) t := fun t k => castTop (ef_23_RRRI m a1 a2 b (2 : Int32)) k
  have q22 := fun t (kt : Go p e below s₁ (mkF m 2 #[vR a1, vR a2, vR b, vI 2] [(.ref b), (.int 2)]) t) => pre0 t (by
    show Go _ _ _ _ (mkF m 0 #[vR a1, vR a2, vR b, vI 2] []) _
    refine XS.iloadN X0.here hx rfl (hb hby d23_0) rfl ?_
    show Go _ _ _ _ (mkF m 1 _ [(.int 2)]) _
    refine XS.aloadN X0.here hx rfl (hb hby d23_1) rfl rfl ?_
    exact kt)
  obtain ⟨c21, Ar21, -, S21, N21, -, -⟩ := id G5
  have q24 := fun t (kt : Go p e below s₁ (mkF m 14 #[vR a1, vR a2, vR b, vI 2] [(.ref a2), (.int 2), (.ref b)]) t) => q22 t (by
    show Go _ _ _ _ (mkF m 2 #[vR a1, vR a2, vR b, vI 2] [(.ref b), (.int 2)]) _
    refine X0.arraylength hx (by rw [e0]; exact Ar21.1) (State.isArrayOf_alike hZ.alike Ar21.2.1) (g := (mkF m 2 #[vR a1, vR a2, vR b, vI 2] [(.ref b), (.int 2)])) rfl rfl (hb hby d23_2) _ ?_
    rw [len_of S21 N21]
    show Go _ _ _ _ (mkF m 3 _ [(.int 10), (.int 2)]) _
    refine XS.icmpYes X0.here hx rfl (pc0 := 3) (pc' := 11) rfl (hb hby d23_3) rfl (feq (by decide : ¬ ((2 : Int32) = (10 : Int32)))).2 (by decide) (by decide) ?_
    show Go _ _ _ _ (mkF m 11 _ []) _
    refine XS.aloadN X0.here hx rfl (hb hby d23_11) rfl rfl ?_
    show Go _ _ _ _ (mkF m 12 _ [(.ref b)]) _
    refine XS.iloadN X0.here hx rfl (hb hby d23_12) rfl ?_
    show Go _ _ _ _ (mkF m 13 _ [(.int 2), (.ref b)]) _
    refine XS.aloadN X0.here hx rfl (hb hby d23_13) rfl rfl ?_
    exact kt)
  obtain ⟨c23, Ar23, q23, S23, N23, H23, G23⟩ := id G5
  have hi23 : ¬ ((2 : Int32) < 0 ∨ c23.slots.size ≤ ((2 : Int32)).toNatClampNeg) := inb_of S23 ⟨by decide, by decide⟩
  obtain ⟨T25, h25, X25, e25, W25, st25⟩ := stR X0 hx hZ e0 Ar23 (j := (2 : Int32)) hi23 rfl (Sto.ofV Ar23 q23 ov (Ins.of_exa G1 (ox hw 212 rfl))) (g := (mkF m 14 #[vR a1, vR a2, vR b, vI 2] [(.ref a2), (.int 2), (.ref b)])) rfl rfl (hb hby d23_14)
  have V25 : Arv Z h25 b kb (.object sk14) (10 : Int32) [(.ref x1), (.ref x2), (.ref a2), .null, .null, .null, .null, .null, .null, .null] .null := Arv.set Ar23 q23 S23 N23 H23 G23 rfl W25 2 rfl (Nat.le_of_ble_eq_true rfl)
  have N26 := Fr.snoc X25 N0 g_b
  have O27 := O0.wr W25 g_b
  have K28 := K0.wr W25 (Or.inl (List.mem_of_getElem? (i := 1) rfl))
  have f29 := (G0.wr W25)
  have f30 := (G4.other W25 (Or.inl hab))
  have q31 := fun t (kt : Go p e below T25 (mkF m 19 #[vR a1, vR a2, vR b, vI 2] [(.int 3), (.ref a1)]) t) => q24 t (st25 t (by
    show Go _ _ _ _ (mkF m 15 #[vR a1, vR a2, vR b, vI 2] []) _
    refine XS.aloadN X25.here hx rfl (hb hby d23_15) rfl rfl ?_
    show Go _ _ _ _ (mkF m 16 _ [(.ref a1)]) _
    refine XS.iloadN X25.here hx rfl (hb hby d23_16) rfl ?_
    show Go _ _ _ _ (mkF m 17 _ [(.int 2), (.ref a1)]) _
    refine XS.iconst X25.here hx rfl (hb hby d23_17) ?_
    show Go _ _ _ _ (mkF m 18 _ [(.int 1), (.int 2), (.ref a1)]) _
    refine XS.iadd X25.here hx rfl (hb hby d23_18) rfl ?_
    exact kt))
  obtain ⟨T32, h32, X32, e32, W32, st32⟩ := putF X25 hx hZ hown (host := "") (Or.inl (ox hw 105 rfl)) Via.refl e25 f30 f29 (Or.inl (ox hw 106 rfl)) (ox hw 52 rfl) (ty := .int) (by decide) rfl rfl (g := (mkF m 19 #[vR a1, vR a2, vR b, vI 2] [(.int 3), (.ref a1)])) rfl rfl (hb hby d23_19)
  have f33 : Fld Z h32 a1 sk18 "size" "I" (.int 3) := f30.same W32
  have N34 := Fr.snoc X32 N26 g_a1
  have O35 := O27.wr W32 g_a1
  have K36 := K28.wr W32 (Or.inl (List.mem_of_getElem? (i := 0) rfl))
  have q37 := fun t (kt : Go p e below T32 (mkF m 22 #[vR a1, vR a2, vR b, vI 2] []) t) => q31 t (st32 t kt)
  have f38 := ((G2.other W25 (Or.inl hab)).other W32 (Or.inr (slot_ne (Or.inl (ox hw 71 rfl)) (Or.inl (ox hw 106 rfl)) (by decide) (t := .int) (t' := .int) (by decide) (by decide))))
  have f39 := ((G3.other W25 (Or.inl hab)).other W32 (Or.inr (slot_ne (Or.inl (ox hw 74 rfl)) (Or.inl (ox hw 106 rfl)) (by decide) (t := (.array (.object sk14))) (t' := .int) (by decide) (by decide))))
  have f40 := (V25.other W32 (Ne.symm hab))
  exact ⟨none, T32, _, _, _, _, X32, by decide, by decide, fun _ => rfl, q37, fun fs hr => X32.returnOut hx hret (hb hby d23_22) hr, by rw [e32]; exact ⟨rfl, N34, K36, f38, f39, f33, f40, ov⟩⟩
def Q_rm22_2 (Z : State) (a1 : Addr) (a2 : Addr) (b : Addr) (x1 : Addr) (x2 : Addr) (kb : ClassId) (z : Int32) (cw : Nat → Nat) (z_cs : Int32) (h0 : Heap) (n0 : Nat) (v : Option Value) (h : Heap) (L : List Loc) : Prop := ∃ (z' : Int32), v = some (.int 1) ∧ Fr n0 L ∧ Keep h0 h [a1, b] ∧ Fld Z h a1 sk17 "modCount" "I" (.int z') ∧ Fld Z h a1 sk18 sk12 sk6 (.ref b) ∧ Fld Z h a1 sk18 "size" "I" (.int 3) ∧ Arv Z h b kb (.object sk14) (10 : Int32) [(.ref x1), (.ref x2), (.ref a2), .null, .null, .null, .null, .null, .null, .null] .null ∧ (Ovr Z kb sk14)
theorem rm22_2 (l : Launch) (Z : State) (a0 : Array Value) (hw : ∀ d ∈ tables_1, d.before a0 Z = true) (ws : List Jvm.Cond) {cw : Nat → Nat} {z_cs : Int32} (cx : Cx Z cw z_cs) (a1 : Addr) (a2 : Addr) (b : Addr) (x1 : Addr) (x2 : Addr) (kb : ClassId) (z : Int32) (h0 : Heap) (n0 : Nat) (O0 : Old Z n0 h0) (G0 : Exa Z h0 a1 sk18) (G1 : Exa Z h0 a2 sk9) (G2 : Fld Z h0 a1 sk17 "modCount" "I" (.int z)) (G3 : Fld Z h0 a1 sk18 sk12 sk6 (.ref b)) (G4 : Fld Z h0 a1 sk18 "size" "I" (.int 2)) (G5 : Arv Z h0 b kb (.object sk14) (10 : Int32) [(.ref x1), (.ref x2), .null, .null, .null, .null, .null, .null, .null, .null] .null) (g_a1 : n0 ≤ a1) (g_b : n0 ≤ b) (ov : Ovr Z kb sk14) (hab : a1 ≠ b) :
    OwnMet l ym12 (Jvm.Cond.code ym12 jdk_38_method_25_code 2 (some .boolean) :: ws) (own_R 1 0 0 15) #[(.ref a1), (.ref a2)] Z h0 (Q_rm22_2 Z a1 a2 b x1 x2 kb z cw z_cs h0 n0) := by
  refine own_body (plainFor_of_name pn_22) hisR fun p e s m below meth c s₁ hx hby hml hown hnm hret hZ X0 e0 => ?_
  have N0 := Fr.nil n0
  have K0 : Keep h0 h0 [a1, b] := Keep.refl _ _
  have pre0 : ∀ t, Go p e below s₁ (mkF m 0 #[vR a1, vR a2] []) t → Go p e below s₁ (entryFrame m #[(.ref a1), (.ref a2)] 2) t := fun t k => castTop (ef_22_RR m a1 a2) k
  have q21 := fun t (kt : Go p e below s₁ (mkF m 2 #[vR a1, vR a2] [(.ref a1), (.ref a1)]) t) => pre0 t (by
    show Go _ _ _ _ (mkF m 0 #[vR a1, vR a2] []) _
    refine XS.aloadN X0.here hx rfl (hb hby d22_0) rfl rfl ?_
    show Go _ _ _ _ (mkF m 1 _ [(.ref a1)]) _
    refine XS.dup X0.here hx rfl (hb hby d22_1) rfl rfl ?_
    exact kt)
  obtain ⟨T22, X22, e22, st22⟩ := getF X0 hx hZ hown (host := "") (Or.inl (ox hw 189 rfl)) (Via.of (ox hw 190 rfl)) e0 G2 (g := (mkF m 2 #[vR a1, vR a2] [(.ref a1), (.ref a1)])) rfl rfl (hb hby d22_2)
  have q23 := fun t (kt : Go p e below T22 (mkF m 7 #[vR a1, vR a2] [(.int (z + (1 : Int32))), (.ref a1)]) t) => q21 t (st22 t (by
    show Go _ _ _ _ (mkF m 5 #[vR a1, vR a2] [(.int z), (.ref a1)]) _
    refine XS.iconst X22.here hx rfl (hb hby d22_5) ?_
    show Go _ _ _ _ (mkF m 6 _ [(.int 1), (.int z), (.ref a1)]) _
    refine XS.iadd X22.here hx rfl (hb hby d22_6) rfl ?_
    exact kt))
  obtain ⟨T24, h24, X24, e24, W24, st24⟩ := putF X22 hx hZ hown (host := "") (Or.inl (ox hw 189 rfl)) (Via.of (ox hw 190 rfl)) e22 G2 G0 (Or.inl (ox hw 71 rfl)) (ox hw 52 rfl) (ty := .int) (by decide) rfl rfl (g := (mkF m 7 #[vR a1, vR a2] [(.int (z + (1 : Int32))), (.ref a1)])) rfl rfl (hb hby d22_7)
  have f25 : Fld Z h24 a1 sk17 "modCount" "I" (.int (z + (1 : Int32))) := G2.same W24
  have N26 := Fr.snoc X24 N0 g_a1
  have O27 := O0.wr W24 g_a1
  have K28 := K0.wr W24 (Or.inl (List.mem_of_getElem? (i := 0) rfl))
  have f29 := (G3.other W24 (Or.inr (slot_ne (Or.inl (ox hw 74 rfl)) (Or.inl (ox hw 71 rfl)) (by decide) (t := (.array (.object sk14))) (t' := .int) (by decide) (by decide))))
  have q30 := fun t (kt : Go p e below T24 (mkF m 13 #[vR a1, vR a2] [(.ref a1), (.ref a2), (.ref a1)]) t) => q23 t (st24 t (by
    show Go _ _ _ _ (mkF m 10 #[vR a1, vR a2] []) _
    refine XS.aloadN X24.here hx rfl (hb hby d22_10) rfl rfl ?_
    show Go _ _ _ _ (mkF m 11 _ [(.ref a1)]) _
    refine XS.aloadN X24.here hx rfl (hb hby d22_11) rfl rfl ?_
    show Go _ _ _ _ (mkF m 12 _ [(.ref a2), (.ref a1)]) _
    refine XS.aloadN X24.here hx rfl (hb hby d22_12) rfl rfl ?_
    exact kt))
  obtain ⟨T31, X31, e31, st31⟩ := getF X24 hx hZ hown (host := "") (Or.inl (ox hw 73 rfl)) Via.refl e24 f29 (g := (mkF m 13 #[vR a1, vR a2] [(.ref a1), (.ref a2), (.ref a1)])) rfl rfl (hb hby d22_13)
  have f32 := (G4.other W24 (Or.inr (slot_ne (Or.inl (ox hw 106 rfl)) (Or.inl (ox hw 71 rfl)) (by decide) (t := .int) (t' := .int) (by decide) (by decide))))
  have q33 := fun t (kt : Go p e below T31 (mkF m 17 #[vR a1, vR a2] [(.ref a1), (.ref b), (.ref a2), (.ref a1)]) t) => q30 t (st31 t (by
    show Go _ _ _ _ (mkF m 16 #[vR a1, vR a2] [(.ref b), (.ref a2), (.ref a1)]) _
    refine XS.aloadN X31.here hx rfl (hb hby d22_16) rfl rfl ?_
    exact kt))
  obtain ⟨T34, X34, e34, st34⟩ := getF X31 hx hZ hown (host := "") (Or.inl (ox hw 105 rfl)) Via.refl e31 f32 (g := (mkF m 17 #[vR a1, vR a2] [(.ref a1), (.ref b), (.ref a2), (.ref a1)])) rfl rfl (hb hby d22_17)
  have f35 := (G0.wr W24)
  have f36 := (G1.wr W24)
  have f37 := (G5.other W24 (Ne.symm hab))
  obtain ⟨cq39, q39, q39'⟩ := f35.cell
  obtain ⟨_, _, ⟨T38, L38, k38, n38⟩, -, X38, ⟨_, hQ38, l38, y38, z38⟩, st38⟩ := X34.privateBack hx (y := ym11) hown (ow hZ hw 191 rfl) (ow hZ hw 192 rfl) (ow hZ hw 194 rfl) (Cond.privateMethod_at (mvP hZ (ox hw 193 rfl) (args := #[]))) (ow hZ hw 195 rfl) (by decide) (backOf (W := 0) (rm23_2 l Z a0 hw [] cx a1 a2 b x1 x2 kb (z + (1 : Int32)) h24 n0 O27 f35 f36 f25 f29 f32 f37 g_a1 g_b ov hab) hZ (ox hw 195 rfl) (ox hw 53 rfl) (by decide) (by decide)) (g := (mkF m 20 #[vR a1, vR a2] [(.int 2), (.ref b), (.ref a2), (.ref a1)])) rfl (by rw [hml]; rfl) (Steps.refl _) (a := a1) (by rw [e34]; exact q39) q39' (argsL := [(.ref a2), (.ref b), (.int 2)]) (rest := []) (lenOf pd_7 rfl) rfl own_le0 (hb hby d22_20) (fun _ _ => ⟨rfl, e34, (by decide : 0 + 0 ≤ _), (by decide : 0 + 0 ≤ _)⟩)
  dsimp only [Pt.U, Pt.locs, Pt.cells, Pt.slots] at X38 l38 y38 z38 st38 hQ38
  subst l38 y38 z38
  obtain ⟨rfl, Nq38, Kq38, fq38_0, fq38_1, fq38_2, fq38_3, pq38_0⟩ := hQ38
  have N40 := Fr.app N26 Nq38
  have O41 := O27.keep Kq38 (allS g_a1 (allS g_b all0))
  have K42 := K28.trans Kq38 (allS (Or.inl (List.mem_of_getElem? (i := 0) rfl)) (allS (Or.inl (List.mem_of_getElem? (i := 1) rfl)) all0))
  have q43 := fun t (kt : Go p e below T38 (mkF m 24 #[vR a1, vR a2] [(.int 1)]) t) => q33 t (st34 t (st38.trans (by
    show Go _ _ _ _ (mkF m 23 #[vR a1, vR a2] []) _
    refine XS.iconst X38.here hx rfl (hb hby d22_23) ?_
    exact kt)))
  exact ⟨some (.int 1), T38, _, _, _, _, X38, by decide, by decide, nofun, q43, fun fs hr => retN X38 hx (t := .boolean) hret (by simp) (hb hby d22_24) hr, ⟨(z + (1 : Int32)), rfl, N40, K42, fq38_0, fq38_1, fq38_2, fq38_3, pq38_0⟩⟩
theorem ef_28_I (m : MethodId) (x0 : Int32) : entryFrame m #[(.int x0)] 1 = mkF m 0 #[.val (.int x0)] [] := by first | (simp [entryFrame, mkF, argsToLocals, Value.category]; done) | rfl
theorem pn_28 : plainName "java/lang/StringLatin1" = true := by first | (simp [plainName, overriddenIn]; done) | decide +kernel
theorem d28_0 : decode jdk_43_method_3_code 0 = .ok (.iload_n 0, 1) := by decide +kernel
theorem d28_1 : decode jdk_43_method_3_code 1 = .ok (.sipush 255, 3) := by decide +kernel
theorem d28_4 : decode jdk_43_method_3_code 4 = .ok (.if_icmp .gt 7, 3) := by decide +kernel
theorem d28_7 : decode jdk_43_method_3_code 7 = .ok (.iconst 1, 1) := by decide +kernel
theorem d28_8 : decode jdk_43_method_3_code 8 = .ok (.goto 4, 3) := by decide +kernel
theorem d28_12 : decode jdk_43_method_3_code 12 = .ok (.ireturn, 1) := by decide +kernel
def Q_rm28 (Z : State) (p1 : Int32) (cw : Nat → Nat) (z_cs : Int32) (h0 : Heap) (n0 : Nat) (v : Option Value) (h : Heap) (L : List Loc) : Prop := v = some (.int 1) ∧ Fr n0 L ∧ h = h0
theorem rm28 (l : Launch) (Z : State) (a0 : Array Value) (hw : ∀ d ∈ tables_1, d.before a0 Z = true) (ws : List Jvm.Cond) {cw : Nat → Nat} {z_cs : Int32} (cx : Cx Z cw z_cs) (p1 : Int32) (h0 : Heap) (n0 : Nat) (O0 : Old Z n0 h0) (hp : ¬ ((255 : Int32) < p1)) :
    OwnMet l ym13 (Jvm.Cond.code ym13 jdk_43_method_3_code 1 (some .boolean) :: ws) (own_R 0 0 0 0) #[(.int p1)] Z h0 (Q_rm28 Z p1 cw z_cs h0 n0) := by
  refine own_body (plainFor_of_name pn_28) hisR fun p e s m below meth c s₁ hx hby hml hown hnm hret hZ X0 e0 => ?_
  have N0 := Fr.nil n0
  have pre0 : ∀ t, Go p e below s₁ (mkF m 0 #[vI p1] []) t → Go p e below s₁ (entryFrame m #[(.int p1)] 1) t := fun t k => castTop (ef_28_I m p1) k
  have q21 := fun t (kt : Go p e below s₁ (mkF m 12 #[vI p1] [(.int 1)]) t) => pre0 t (by
    show Go _ _ _ _ (mkF m 0 #[vI p1] []) _
    refine XS.iloadN X0.here hx rfl (hb hby d28_0) rfl ?_
    show Go _ _ _ _ (mkF m 1 _ [(.int p1)]) _
    refine XS.sipush X0.here hx rfl (hb hby d28_1) ?_
    show Go _ _ _ _ (mkF m 4 _ [(.int 255), (.int p1)]) _
    refine XS.icmpNo X0.here hx rfl (hb hby d28_4) rfl (flt hp).2.2.1 ?_
    show Go _ _ _ _ (mkF m 7 _ []) _
    refine XS.iconst X0.here hx rfl (hb hby d28_7) ?_
    show Go _ _ _ _ (mkF m 8 _ [(.int 1)]) _
    refine XS.goto X0.here hx rfl (pc0 := 8) (pc' := 12) rfl (hb hby d28_8) (by decide) (by decide) ?_
    exact kt)
  exact ⟨some (.int 1), s₁, _, _, _, _, X0, by decide, by decide, nofun, q21, fun fs hr => retN X0 hx (t := .boolean) hret (by simp) (hb hby d28_12) hr, by rw [e0]; exact ⟨rfl, N0, rfl⟩⟩
theorem ef_29_I (m : MethodId) (x0 : Int32) : entryFrame m #[(.int x0)] 1 = mkF m 0 #[.val (.int x0)] [] := by first | (simp [entryFrame, mkF, argsToLocals, Value.category]; done) | rfl
theorem pn_29 : plainName "java/lang/StringLatin1" = true := by first | (simp [plainName, overriddenIn]; done) | decide +kernel
theorem d29_0 : decode jdk_43_method_46_code 0 = .ok (.iconst 1, 1) := by decide +kernel
theorem d29_1 : decode jdk_43_method_46_code 1 = .ok (.newarray .byte, 2) := by decide +kernel
theorem d29_3 : decode jdk_43_method_46_code 3 = .ok (.dup, 1) := by decide +kernel
theorem d29_4 : decode jdk_43_method_46_code 4 = .ok (.iconst 0, 1) := by decide +kernel
theorem d29_5 : decode jdk_43_method_46_code 5 = .ok (.iload_n 0, 1) := by decide +kernel
theorem d29_6 : decode jdk_43_method_46_code 6 = .ok (.i2b, 1) := by decide +kernel
theorem d29_7 : decode jdk_43_method_46_code 7 = .ok (.bastore, 1) := by decide +kernel
theorem d29_8 : decode jdk_43_method_46_code 8 = .ok (.areturn, 1) := by decide +kernel
def Q_rm29 (Z : State) (p1 : Int32) (cw : Nat → Nat) (z_cs : Int32) (h0 : Heap) (n0 : Nat) (v : Option Value) (h : Heap) (L : List Loc) : Prop := ∃ (b : Addr) (kb : ClassId), v = some (.ref b) ∧ Fr n0 L ∧ Keep h0 h [] ∧ h0.size ≤ b ∧ Arv Z h b kb .byte (1 : Int32) [(.int (nar .byte (p1.toInt8.toInt32)))] (.int 0)
theorem rm29 (l : Launch) (Z : State) (a0 : Array Value) (hw : ∀ d ∈ tables_1, d.before a0 Z = true) (ws : List Jvm.Cond) {cw : Nat → Nat} {z_cs : Int32} (cx : Cx Z cw z_cs) (p1 : Int32) (h0 : Heap) (n0 : Nat) (O0 : Old Z n0 h0) :
    OwnMet l ym14 (Jvm.Cond.code ym14 jdk_43_method_46_code 1 (some (.array .byte)) :: ws) (own_R 0 1 1 0) #[(.int p1)] Z h0 (Q_rm29 Z p1 cw z_cs h0 n0) := by
  refine own_body (plainFor_of_name pn_29) hisR fun p e s m below meth c s₁ hx hby hml hown hnm hret hZ X0 e0 => ?_
  have N0 := Fr.nil n0
  have K0 : Keep h0 h0 [] := Keep.refl _ _
  have pre0 : ∀ t, Go p e below s₁ (mkF m 0 #[vI p1] []) t → Go p e below s₁ (entryFrame m #[(.int p1)] 1) t := fun t k => castTop (ef_29_I m p1) k
  have q21 := fun t (kt : Go p e below s₁ (mkF m 1 #[vI p1] [(.int 1)]) t) => pre0 t (by
    show Go _ _ _ _ (mkF m 0 #[vI p1] []) _
    refine XS.iconst X0.here hx rfl (hb hby d29_0) ?_
    exact kt)
  obtain ⟨T22, h22, k22, X22, e22, E22, A22, st22⟩ := newP X0 hx hZ (ox hw 14 rfl) e0 (g := (mkF m 1 #[vI p1] [(.int 1)])) rfl (hb hby d29_1) rfl (by decide) (cap := 1) (by decide) (by decide) (by decide) (by decide)
  obtain ⟨b22, g22⟩ : ∃ z, z = h0.size := ⟨_, rfl⟩
  rw [← g22] at A22 st22
  have gg23 : n0 ≤ b22 := Nat.le_trans (O0.1 ▸ O0.2.1) (Nat.le_of_eq g22.symm)
  have sz24 : h0.size ≤ b22 := Nat.le_trans K0.1 (Nat.le_of_eq g22.symm)
  have O25 := O0.ext E22
  have K26 := K0.ext E22
  have V22 : Arv Z h22 b22 k22 .byte (1 : Int32) [(.int 0)] (.int 0) := (Arv.new A22 (by decide)).pad (pad_rep [] (.int 0) 1)
  have q28 := fun t (kt : Go p e below T22 (mkF m 7 #[vI p1] [(.int (p1.toInt8.toInt32)), (.int 0), (.ref b22), (.ref b22)]) t) => q21 t (st22 t (by
    show Go _ _ _ _ (mkF m 3 #[vI p1] [(.ref b22)]) _
    refine XS.dup X22.here hx rfl (hb hby d29_3) rfl rfl ?_
    show Go _ _ _ _ (mkF m 4 _ [(.ref b22), (.ref b22)]) _
    refine XS.iconst X22.here hx rfl (hb hby d29_4) ?_
    show Go _ _ _ _ (mkF m 5 _ [(.int 0), (.ref b22), (.ref b22)]) _
    refine XS.iloadN X22.here hx rfl (hb hby d29_5) rfl ?_
    show Go _ _ _ _ (mkF m 6 _ [(.int p1), (.int 0), (.ref b22), (.ref b22)]) _
    refine XS.i2b X22.here hx rfl (hb hby d29_6) rfl ?_
    exact kt))
  obtain ⟨c27, Ar27, q27, S27, N27, H27, G27⟩ := id V22
  have hi27 : ¬ ((0 : Int32) < 0 ∨ c27.slots.size ≤ ((0 : Int32)).toNatClampNeg) := inb_of S27 ⟨by decide, by decide⟩
  obtain ⟨T29, h29, X29, e29, W29, st29⟩ := stB X22 hx hZ e22 Ar27 (j := (0 : Int32)) hi27 (g := (mkF m 7 #[vI p1] [(.int (p1.toInt8.toInt32)), (.int 0), (.ref b22), (.ref b22)])) rfl rfl (hb hby d29_7)
  have V29 : Arv Z h29 b22 k22 .byte (1 : Int32) [(.int (nar .byte (p1.toInt8.toInt32)))] (.int 0) := Arv.set Ar27 q27 S27 N27 H27 G27 (fits_nar_byte _) W29 0 rfl (Nat.le_of_ble_eq_true rfl)
  have N30 := Fr.snoc X29 N0 gg23
  have O31 := O25.wr W29 gg23
  have K32 := K26.wr W29 (Or.inr sz24)
  have q33 := fun t (kt : Go p e below T29 (mkF m 8 #[vI p1] [(.ref b22)]) t) => q28 t (st29 t kt)
  exact ⟨some (.ref b22), T29, _, _, _, _, X29, by decide, by decide, nofun, q33, fun fs hr => retOut X29 hx hret rfl (o4 ⟨rfl, rfl, rfl⟩) (hb hby d29_8) hr, by rw [e29]; exact ⟨b22, k22, rfl, N30, K32, sz24, V29⟩⟩
theorem ef_30_RRI (m : MethodId) (x0 : Addr) (x1 : Addr) (x2 : Int32) : entryFrame m #[(.ref x0), (.ref x1), (.int x2)] 3 = mkF m 0 #[.val (.ref x0), .val (.ref x1), .val (.int x2)] [] := by first | (simp [entryFrame, mkF, argsToLocals, Value.category]; done) | rfl
theorem pn_30 : plainName "java/lang/String" = true := by first | (simp [plainName, overriddenIn]; done) | decide +kernel
theorem d30_0 : decode jdk_42_method_151_code 0 = .ok (.aload_n 0, 1) := by decide +kernel
theorem d30_1 : decode jdk_42_method_151_code 1 = .ok (.invokespecial 1, 3) := by decide +kernel
theorem d30_4 : decode jdk_42_method_151_code 4 = .ok (.aload_n 0, 1) := by decide +kernel
theorem d30_5 : decode jdk_42_method_151_code 5 = .ok (.aload_n 1, 1) := by decide +kernel
theorem d30_6 : decode jdk_42_method_151_code 6 = .ok (.putfield 9, 3) := by decide +kernel
theorem d30_9 : decode jdk_42_method_151_code 9 = .ok (.aload_n 0, 1) := by decide +kernel
theorem d30_10 : decode jdk_42_method_151_code 10 = .ok (.iload_n 2, 1) := by decide +kernel
theorem d30_11 : decode jdk_42_method_151_code 11 = .ok (.putfield 15, 3) := by decide +kernel
theorem d30_14 : decode jdk_42_method_151_code 14 = .ok (.return_, 1) := by decide +kernel
def Q_rm30 (Z : State) (a1 : Addr) (a2 : Addr) (cw : Nat → Nat) (z_cs : Int32) (h0 : Heap) (n0 : Nat) (v : Option Value) (h : Heap) (L : List Loc) : Prop := v = none ∧ Fr n0 L ∧ Keep h0 h [a1] ∧ Fld Z h a1 sk15 "value" "[B" (.ref a2) ∧ Fld Z h a1 sk15 "coder" "B" (.int 0)
theorem rm30 (l : Launch) (Z : State) (a0 : Array Value) (hw : ∀ d ∈ tables_1, d.before a0 Z = true) (ws : List Jvm.Cond) {cw : Nat → Nat} {z_cs : Int32} (cx : Cx Z cw z_cs) (a1 : Addr) (a2 : Addr) (h0 : Heap) (n0 : Nat) (O0 : Old Z n0 h0) (G0 : Exa Z h0 a1 sk15) (G1 : Fld Z h0 a1 sk15 "value" "[B" .null) (G2 : Fld Z h0 a1 sk15 "coder" "B" (.int 0)) (g_a1 : n0 ≤ a1) :
    OwnMet l ym15 (Jvm.Cond.code ym15 jdk_42_method_151_code 3 none :: ws) (own_R 1 0 0 12) #[(.ref a1), (.ref a2), (.int 0)] Z h0 (Q_rm30 Z a1 a2 cw z_cs h0 n0) := by
  refine own_body (plainFor_of_name pn_30) hisR fun p e s m below meth c s₁ hx hby hml hown hnm hret hZ X0 e0 => ?_
  have N0 := Fr.nil n0
  have K0 : Keep h0 h0 [a1] := Keep.refl _ _
  have pre0 : ∀ t, Go p e below s₁ (mkF m 0 #[vR a1, vR a2, vI 0] []) t → Go p e below s₁ (entryFrame m #[(.ref a1), (.ref a2), (.int 0)] 3) t := fun t k => castTop (ef_30_RRI m a1 a2 (0 : Int32)) k
  have q21 := fun t (kt : Go p e below s₁ (mkF m 1 #[vR a1, vR a2, vI 0] [(.ref a1)]) t) => pre0 t (by
    show Go _ _ _ _ (mkF m 0 #[vR a1, vR a2, vI 0] []) _
    refine XS.aloadN X0.here hx rfl (hb hby d30_0) rfl rfl ?_
    exact kt)
  obtain ⟨T22, X22, e22, st22⟩ := initO X0 hx hZ hown (ox hw 229 rfl) (ox hw 39 rfl) (ox hw 40 rfl) e0 (g := (mkF m 1 #[vR a1, vR a2, vI 0] [(.ref a1)])) rfl (by rw [hml]; rfl) rfl (hb hby d30_1) (by decide) (W := 0) own_le0 (by decide)
  have q23 := fun t (kt : Go p e below T22 (mkF m 6 #[vR a1, vR a2, vI 0] [(.ref a2), (.ref a1)]) t) => q21 t (st22 t (by
    show Go _ _ _ _ (mkF m 4 #[vR a1, vR a2, vI 0] []) _
    refine XS.aloadN X22.here hx rfl (hb hby d30_4) rfl rfl ?_
    show Go _ _ _ _ (mkF m 5 _ [(.ref a1)]) _
    refine XS.aloadN X22.here hx rfl (hb hby d30_5) rfl rfl ?_
    exact kt))
  obtain ⟨T24, h24, X24, e24, W24, st24⟩ := putF X22 hx hZ hown (host := "") (Or.inl (ox hw 230 rfl)) Via.refl e22 G1 G0 (Or.inr ⟨(ox hw 15 rfl), rfl, hnm⟩) (ox hw 13 rfl) (ty := (.array .byte)) (by decide) rfl rfl (g := (mkF m 6 #[vR a1, vR a2, vI 0] [(.ref a2), (.ref a1)])) rfl rfl (hb hby d30_6)
  have f25 : Fld Z h24 a1 sk15 "value" "[B" (.ref a2) := G1.same W24
  have N26 := Fr.snoc X24 N0 g_a1
  have O27 := O0.wr W24 g_a1
  have K28 := K0.wr W24 (Or.inl (List.mem_of_getElem? (i := 0) rfl))
  have f29 := (G0.wr W24)
  have f30 := (G2.other W24 (Or.inr (slot_ne (Or.inr (ox hw 16 rfl)) (Or.inr (ox hw 15 rfl)) (by decide) (t := .byte) (t' := (.array .byte)) (by decide) (by decide))))
  have q31 := fun t (kt : Go p e below T24 (mkF m 11 #[vR a1, vR a2, vI 0] [(.int 0), (.ref a1)]) t) => q23 t (st24 t (by
    show Go _ _ _ _ (mkF m 9 #[vR a1, vR a2, vI 0] []) _
    refine XS.aloadN X24.here hx rfl (hb hby d30_9) rfl rfl ?_
    show Go _ _ _ _ (mkF m 10 _ [(.ref a1)]) _
    refine XS.iloadN X24.here hx rfl (hb hby d30_10) rfl ?_
    exact kt))
  obtain ⟨T32, h32, X32, e32, W32, st32⟩ := putFN X24 hx hZ hown (ox hw 231 rfl) Via.refl e24 f30 f29 (Or.inr ⟨(ox hw 16 rfl), rfl, hnm⟩) (ox hw 13 rfl) (ty := .byte) (v' := (.int 0)) (by decide) rfl rfl (g := (mkF m 11 #[vR a1, vR a2, vI 0] [(.int 0), (.ref a1)])) rfl rfl (hb hby d30_11)
  have f33 : Fld Z h32 a1 sk15 "coder" "B" (.int 0) := f30.same W32
  have N34 := Fr.snoc X32 N26 g_a1
  have O35 := O27.wr W32 g_a1
  have K36 := K28.wr W32 (Or.inl (List.mem_of_getElem? (i := 0) rfl))
  have q37 := fun t (kt : Go p e below T32 (mkF m 14 #[vR a1, vR a2, vI 0] []) t) => q31 t (st32 t kt)
  have f38 := (f25.other W32 (Or.inr (slot_ne (Or.inr (ox hw 15 rfl)) (Or.inr (ox hw 16 rfl)) (by decide) (t := (.array .byte)) (t' := .byte) (by decide) (by decide))))
  exact ⟨none, T32, _, _, _, _, X32, by decide, by decide, fun _ => rfl, q37, fun fs hr => X32.returnOut hx hret (hb hby d30_14) hr, by rw [e32]; exact ⟨rfl, N34, K36, f38, f33⟩⟩
theorem ef_27_I (m : MethodId) (x0 : Int32) : entryFrame m #[(.int x0)] 1 = mkF m 0 #[.val (.int x0)] [] := by first | (simp [entryFrame, mkF, argsToLocals, Value.category]; done) | rfl
theorem pn_27 : plainName "java/lang/String" = true := by first | (simp [plainName, overriddenIn]; done) | decide +kernel
theorem d27_0 : decode jdk_42_method_139_code 0 = .ok (.getstatic 38, 3) := by decide +kernel
theorem d27_3 : decode jdk_42_method_139_code 3 = .ok (.ifCond .eq 23, 3) := by decide +kernel
theorem d27_6 : decode jdk_42_method_139_code 6 = .ok (.iload_n 0, 1) := by decide +kernel
theorem d27_7 : decode jdk_42_method_139_code 7 = .ok (.invokestatic 1015, 3) := by decide +kernel
theorem pd_8 : parseMethodDescriptor "(C)Z" = some ⟨[.char], some .boolean⟩ := by decide +kernel
theorem d27_10 : decode jdk_42_method_139_code 10 = .ok (.ifCond .eq 16, 3) := by decide +kernel
theorem d27_13 : decode jdk_42_method_139_code 13 = .ok (.new 10, 3) := by decide +kernel
theorem d27_16 : decode jdk_42_method_139_code 16 = .ok (.dup, 1) := by decide +kernel
theorem d27_17 : decode jdk_42_method_139_code 17 = .ok (.iload_n 0, 1) := by decide +kernel
theorem d27_18 : decode jdk_42_method_139_code 18 = .ok (.invokestatic 1018, 3) := by decide +kernel
theorem pd_9 : parseMethodDescriptor "(C)[B" = some ⟨[.char], some (.array .byte)⟩ := by decide +kernel
theorem d27_21 : decode jdk_42_method_139_code 21 = .ok (.iconst 0, 1) := by decide +kernel
theorem d27_22 : decode jdk_42_method_139_code 22 = .ok (.invokespecial 209, 3) := by decide +kernel
theorem pd_10 : parseMethodDescriptor "([BB)V" = some ⟨[(.array .byte), .byte], none⟩ := by decide +kernel
theorem d27_25 : decode jdk_42_method_139_code 25 = .ok (.areturn, 1) := by decide +kernel
def Q_rm27 (Z : State) (p1 : Int32) (cw : Nat → Nat) (z_cs : Int32) (h0 : Heap) (n0 : Nat) (v : Option Value) (h : Heap) (L : List Loc) : Prop := ∃ (b : Addr), v = some (.ref b) ∧ Fr n0 L ∧ Keep h0 h [] ∧ h0.size ≤ b ∧ Exa Z h b sk15
theorem rm27 (l : Launch) (Z : State) (a0 : Array Value) (hw : ∀ d ∈ tables_1, d.before a0 Z = true) (ws : List Jvm.Cond) {cw : Nat → Nat} {z_cs : Int32} (cx : Cx Z cw z_cs) (p1 : Int32) (h0 : Heap) (n0 : Nat) (O0 : Old Z n0 h0) (hp : ¬ ((255 : Int32) < p1)) :
    OwnMet l ym16 (Jvm.Cond.code ym16 jdk_42_method_139_code 1 (some (.object sk15)) :: ws) (own_R 2 2 5 27) #[(.int p1)] Z h0 (Q_rm27 Z p1 cw z_cs h0 n0) := by
  refine own_body (plainFor_of_name pn_27) hisR fun p e s m below meth c s₁ hx hby hml hown hnm hret hZ X0 e0 => ?_
  have N0 := Fr.nil n0
  have K0 : Keep h0 h0 [] := Keep.refl _ _
  have pre0 : ∀ t, Go p e below s₁ (mkF m 0 #[vI p1] []) t → Go p e below s₁ (entryFrame m #[(.int p1)] 1) t := fun t k => castTop (ef_27_I m p1) k
  obtain ⟨T21, X21, e21, st21⟩ := getS2 X0 hx hZ hown (host := "") (Or.inl (ox hw 216 rfl)) Via.refl e0 (cx.2.2.2.2.2.2.2.2.2.2.2.2.2.2.2.2.2.2.2.2.2.2.2.2.2.2.2.2.2.2.2.2.2.2.2.2.2.2.1.ext O0.2) (g := (mkF m 0 #[vI p1] [])) rfl (hb hby d27_0)
  have q22 := fun t (kt : Go p e below T21 (mkF m 7 #[vI p1] [(.int p1)]) t) => pre0 t (st21 t (by
    show Go _ _ _ _ (mkF m 3 #[vI p1] [(.int z_cs)]) _
    refine XS.ifNo X21.here hx rfl (hb hby d27_3) rfl ((if0 _ _).trans (feq cx.2.2.2.2.2.2.2.2.2.2.2.2.2.2.2.2.2.2.2.2.2.2.2.2.2.2.2.2.2.2.2.2.2.2.2.2.2.2.2.1).1) ?_
    show Go _ _ _ _ (mkF m 6 _ []) _
    refine XS.iloadN X21.here hx rfl (hb hby d27_6) rfl ?_
    exact kt))
  obtain ⟨_, _, ⟨T23, L23, k23, n23⟩, -, X23, ⟨_, hQ23, l23, y23, z23⟩, st23⟩ := Jvm.LawKit.callS X21 hx (y := ym13) hown (ow hZ hw 217 rfl) (ow hZ hw 218 rfl) (ow hZ hw 219 rfl) (ow hZ hw 220 rfl) (by decide) (backOf (W := 0) (rm28 l Z a0 hw [] cx p1 h0 n0 O0 hp) hZ (ox hw 220 rfl) (ox hw 219 rfl) (by decide) (by decide)) (g := (mkF m 7 #[vI p1] [(.int p1)])) rfl (by rw [hml]; rfl) (argsL := [(.int p1)]) (rest := []) (lenOf pd_8 rfl) rfl own_le0 (hb hby d27_7) (fun _ _ => ⟨rfl, e21, (by decide : 0 + 0 ≤ _), (by decide : 0 + 0 ≤ _)⟩)
  dsimp only [Pt.U, Pt.locs, Pt.cells, Pt.slots] at X23 l23 y23 z23 st23 hQ23
  subst l23 y23 z23
  obtain ⟨rfl, Nq23, eq23⟩ := hQ23
  have N24 := Fr.app N0 Nq23
  have q25 := fun t (kt : Go p e below T23 (mkF m 13 #[vI p1] []) t) => q22 t (st23 t (by
    show Go _ _ _ _ (mkF m 10 #[vI p1] [(.int 1)]) _
    refine XS.ifNo X23.here hx rfl (hb hby d27_10) rfl ((if0 _ _).trans (feq (by decide : ¬ ((1 : Int32) = (0 : Int32)))).1) ?_
    exact kt))
  obtain ⟨T26, h26, X26, e26, E26, A26, D26, U26, st26⟩ := newO X23 hx hZ hown (ox hw 221 rfl) (ox hw 13 rfl) (ox hw 12 rfl) eq23 (g := (mkF m 13 #[vI p1] [])) rfl (hb hby d27_13) (by decide) (by decide)
  obtain ⟨b26, g26⟩ : ∃ z, z = h0.size := ⟨_, rfl⟩
  rw [← g26] at A26 D26 st26
  have gg27 : n0 ≤ b26 := Nat.le_trans (O0.1 ▸ O0.2.1) (Nat.le_of_eq g26.symm)
  have sz28 : h0.size ≤ b26 := Nat.le_trans K0.1 (Nat.le_of_eq g26.symm)
  have O29 := O0.ext E26
  have K30 := K0.ext E26
  have F26_value : Fld Z h26 b26 sk15 "value" "[B" .null := D26 (Or.inr (ox hw 15 rfl)) (ty := (.array .byte)) (by decide)
  have F26_coder : Fld Z h26 b26 sk15 "coder" "B" (.int 0) := D26 (Or.inr (ox hw 16 rfl)) (ty := .byte) (by decide)
  have q31 := fun t (kt : Go p e below T26 (mkF m 18 #[vI p1] [(.int p1), (.ref b26), (.ref b26)]) t) => q25 t (st26 t (by
    show Go _ _ _ _ (mkF m 16 #[vI p1] [(.ref b26)]) _
    refine XS.dup X26.here hx rfl (hb hby d27_16) rfl rfl ?_
    show Go _ _ _ _ (mkF m 17 _ [(.ref b26), (.ref b26)]) _
    refine XS.iloadN X26.here hx rfl (hb hby d27_17) rfl ?_
    exact kt))
  obtain ⟨_, _, ⟨T32, L32, k32, n32⟩, -, X32, ⟨_, hQ32, l32, y32, z32⟩, st32⟩ := Jvm.LawKit.callS X26 hx (y := ym14) hown (ow hZ hw 222 rfl) (ow hZ hw 223 rfl) (ow hZ hw 219 rfl) (ow hZ hw 224 rfl) (by decide) (backOf (W := 2) (rm29 l Z a0 hw [] cx p1 h26 n0 O29 ) hZ (ox hw 224 rfl) (ox hw 219 rfl) (by decide) (by decide)) (g := (mkF m 18 #[vI p1] [(.int p1), (.ref b26), (.ref b26)])) rfl (by rw [hml]; rfl) (argsL := [(.int p1)]) (rest := [(.ref b26), (.ref b26)]) (lenOf pd_9 rfl) rfl own_le0 (hb hby d27_18) (fun _ _ => ⟨rfl, e26, (by decide : 1 + 1 ≤ _), (by decide : 4 + 1 ≤ _)⟩)
  dsimp only [Pt.U, Pt.locs, Pt.cells, Pt.slots] at X32 l32 y32 z32 st32 hQ32
  subst l32 y32 z32
  obtain ⟨b_32, kb_32, rfl, Nq32, Kq32, fr32_0, fq32_0⟩ := hQ32
  have N33 := Fr.app N24 Nq32
  have gg34 : n0 ≤ b_32 := Nat.le_trans (O29.1 ▸ O29.2.1) fr32_0
  have sz35 : h0.size ≤ b_32 := Nat.le_trans K30.1 fr32_0
  have O36 := O29.keep Kq32 all0
  have K37 := K30.trans Kq32 all0
  have f38 := (A26.keep Kq32)
  have f39 := (F26_value.keep Kq32 nin0)
  have f40 := (F26_coder.keep Kq32 nin0)
  have q41 := fun t (kt : Go p e below T32 (mkF m 22 #[vI p1] [(.int 0), (.ref b_32), (.ref b26), (.ref b26)]) t) => q31 t (st32 t (by
    show Go _ _ _ _ (mkF m 21 #[vI p1] [(.ref b_32), (.ref b26), (.ref b26)]) _
    refine XS.iconst X32.here hx rfl (hb hby d27_21) ?_
    exact kt))
  obtain ⟨_, _, ⟨T42, L42, k42, n42⟩, -, X42, ⟨_, hQ42, l42, y42, z42⟩, st42⟩ := X32.specialBack hx (y := ym15) rfl hown (ow hZ hw 225 rfl) (ow hZ hw 226 rfl) (ow hZ hw 228 rfl) (by decide) (backOf (W := 1) (rm30 l Z a0 hw [] cx b26 b_32 T32.heap n0 O36 f38 f39 f40 gg27) hZ (ox hw 228 rfl) (ox hw 12 rfl) (by decide) (by decide)) (g := (mkF m 22 #[vI p1] [(.int 0), (.ref b_32), (.ref b26), (.ref b26)])) rfl (by rw [hml]; rfl) (Steps.refl _) (a := b26) (argsL := [(.ref b_32), (.int 0)]) (rest := [(.ref b26)]) (lenOf pd_10 rfl) rfl own_le0 (hb hby d27_22) (fun _ _ => ⟨rfl, rfl, (by decide : 2 + 0 ≤ _), (by decide : 5 + 0 ≤ _)⟩)
  dsimp only [Pt.U, Pt.locs, Pt.cells, Pt.slots] at X42 l42 y42 z42 st42 hQ42
  subst l42 y42 z42
  obtain ⟨rfl, Nq42, Kq42, fq42_0, fq42_1⟩ := hQ42
  have N43 := Fr.app N33 Nq42
  have O44 := O36.keep Kq42 (allS gg27 all0)
  have K45 := K37.trans Kq42 (allS (Or.inr sz28) all0)
  have q46 := fun t (kt : Go p e below T42 (mkF m 25 #[vI p1] [(.ref b26)]) t) => q41 t (st42.trans kt)
  have f47 := (f38.keep Kq42)
  exact ⟨some (.ref b26), T42, _, _, _, _, X42, by decide, by decide, nofun, q46, fun fs hr => retOut X42 hx hret rfl (o4 ⟨rfl, rfl, rfl⟩) (hb hby d27_25) hr, ⟨b26, rfl, N43, K45, sz28, f47⟩⟩
theorem ef_13_R (m : MethodId) (x0 : Addr) : entryFrame m #[(.ref x0)] 1 = mkF m 0 #[.val (.ref x0)] [] := by first | (simp [entryFrame, mkF, argsToLocals, Value.category]; done) | rfl
theorem pn_13 : plainName "java/util/ArrayList" = true := by first | (simp [plainName, overriddenIn]; done) | decide +kernel
theorem d13_0 : decode jdk_38_method_9_code 0 = .ok (.aload_n 0, 1) := by decide +kernel
theorem d13_1 : decode jdk_38_method_9_code 1 = .ok (.getfield 48, 3) := by decide +kernel
theorem d13_4 : decode jdk_38_method_9_code 4 = .ok (.ifCond .ne 7, 3) := by decide +kernel
theorem d13_7 : decode jdk_38_method_9_code 7 = .ok (.iconst 1, 1) := by decide +kernel
theorem d13_8 : decode jdk_38_method_9_code 8 = .ok (.goto 4, 3) := by decide +kernel
theorem d13_12 : decode jdk_38_method_9_code 12 = .ok (.ireturn, 1) := by decide +kernel
def Q_rm13_0 (Z : State) (a1 : Addr) (cw : Nat → Nat) (z_cs : Int32) (h0 : Heap) (n0 : Nat) (v : Option Value) (h : Heap) (L : List Loc) : Prop := v = some (.int 1) ∧ Fr n0 L ∧ h = h0
theorem rm13_0 (l : Launch) (Z : State) (a0 : Array Value) (hw : ∀ d ∈ tables_1, d.before a0 Z = true) (ws : List Jvm.Cond) {cw : Nat → Nat} {z_cs : Int32} (cx : Cx Z cw z_cs) (a1 : Addr) (h0 : Heap) (n0 : Nat) (O0 : Old Z n0 h0) (G0 : Fld Z h0 a1 sk18 "size" "I" (.int 0)) :
    OwnMet l ym17 (Jvm.Cond.code ym17 jdk_38_method_9_code 1 (some .boolean) :: ws) (own_R 0 0 0 0) #[(.ref a1)] Z h0 (Q_rm13_0 Z a1 cw z_cs h0 n0) := by
  refine own_body (plainFor_of_name pn_13) hisR fun p e s m below meth c s₁ hx hby hml hown hnm hret hZ X0 e0 => ?_
  have N0 := Fr.nil n0
  have pre0 : ∀ t, Go p e below s₁ (mkF m 0 #[vR a1] []) t → Go p e below s₁ (entryFrame m #[(.ref a1)] 1) t := fun t k => castTop (ef_13_R m a1) k
  have q21 := fun t (kt : Go p e below s₁ (mkF m 1 #[vR a1] [(.ref a1)]) t) => pre0 t (by
    show Go _ _ _ _ (mkF m 0 #[vR a1] []) _
    refine XS.aloadN X0.here hx rfl (hb hby d13_0) rfl rfl ?_
    exact kt)
  obtain ⟨T22, X22, e22, st22⟩ := getF X0 hx hZ hown (host := "") (Or.inl (ox hw 105 rfl)) Via.refl e0 G0 (g := (mkF m 1 #[vR a1] [(.ref a1)])) rfl rfl (hb hby d13_1)
  have q23 := fun t (kt : Go p e below T22 (mkF m 12 #[vR a1] [(.int 1)]) t) => q21 t (st22 t (by
    show Go _ _ _ _ (mkF m 4 #[vR a1] [(.int 0)]) _
    refine XS.ifNo X22.here hx rfl (hb hby d13_4) rfl ((if0 _ _).trans (teq (rfl : (0 : Int32) = (0 : Int32))).2) ?_
    show Go _ _ _ _ (mkF m 7 _ []) _
    refine XS.iconst X22.here hx rfl (hb hby d13_7) ?_
    show Go _ _ _ _ (mkF m 8 _ [(.int 1)]) _
    refine XS.goto X22.here hx rfl (pc0 := 8) (pc' := 12) rfl (hb hby d13_8) (by decide) (by decide) ?_
    exact kt))
  exact ⟨some (.int 1), T22, _, _, _, _, X22, by decide, by decide, nofun, q23, fun fs hr => retN X22 hx (t := .boolean) hret (by simp) (hb hby d13_12) hr, by rw [e22]; exact ⟨rfl, N0, rfl⟩⟩
theorem d13_11 : decode jdk_38_method_9_code 11 = .ok (.iconst 0, 1) := by decide +kernel
def Q_rm13_1 (Z : State) (a1 : Addr) (cw : Nat → Nat) (z_cs : Int32) (h0 : Heap) (n0 : Nat) (v : Option Value) (h : Heap) (L : List Loc) : Prop := v = some (.int 0) ∧ Fr n0 L ∧ h = h0
theorem rm13_1 (l : Launch) (Z : State) (a0 : Array Value) (hw : ∀ d ∈ tables_1, d.before a0 Z = true) (ws : List Jvm.Cond) {cw : Nat → Nat} {z_cs : Int32} (cx : Cx Z cw z_cs) (a1 : Addr) (h0 : Heap) (n0 : Nat) (O0 : Old Z n0 h0) (G0 : Fld Z h0 a1 sk18 "size" "I" (.int 1)) :
    OwnMet l ym17 (Jvm.Cond.code ym17 jdk_38_method_9_code 1 (some .boolean) :: ws) (own_R 0 0 0 0) #[(.ref a1)] Z h0 (Q_rm13_1 Z a1 cw z_cs h0 n0) := by
  refine own_body (plainFor_of_name pn_13) hisR fun p e s m below meth c s₁ hx hby hml hown hnm hret hZ X0 e0 => ?_
  have N0 := Fr.nil n0
  have pre0 : ∀ t, Go p e below s₁ (mkF m 0 #[vR a1] []) t → Go p e below s₁ (entryFrame m #[(.ref a1)] 1) t := fun t k => castTop (ef_13_R m a1) k
  have q21 := fun t (kt : Go p e below s₁ (mkF m 1 #[vR a1] [(.ref a1)]) t) => pre0 t (by
    show Go _ _ _ _ (mkF m 0 #[vR a1] []) _
    refine XS.aloadN X0.here hx rfl (hb hby d13_0) rfl rfl ?_
    exact kt)
  obtain ⟨T22, X22, e22, st22⟩ := getF X0 hx hZ hown (host := "") (Or.inl (ox hw 105 rfl)) Via.refl e0 G0 (g := (mkF m 1 #[vR a1] [(.ref a1)])) rfl rfl (hb hby d13_1)
  have q23 := fun t (kt : Go p e below T22 (mkF m 12 #[vR a1] [(.int 0)]) t) => q21 t (st22 t (by
    show Go _ _ _ _ (mkF m 4 #[vR a1] [(.int 1)]) _
    refine XS.ifYes X22.here hx rfl (pc0 := 4) (pc' := 11) rfl (hb hby d13_4) rfl ((if0 _ _).trans (feq (by decide : ¬ ((1 : Int32) = (0 : Int32)))).2) (by decide) (by decide) ?_
    show Go _ _ _ _ (mkF m 11 _ []) _
    refine XS.iconst X22.here hx rfl (hb hby d13_11) ?_
    exact kt))
  exact ⟨some (.int 0), T22, _, _, _, _, X22, by decide, by decide, nofun, q23, fun fs hr => retN X22 hx (t := .boolean) hret (by simp) (hb hby d13_12) hr, by rw [e22]; exact ⟨rfl, N0, rfl⟩⟩
def Q_rm13_2 (Z : State) (a1 : Addr) (cw : Nat → Nat) (z_cs : Int32) (h0 : Heap) (n0 : Nat) (v : Option Value) (h : Heap) (L : List Loc) : Prop := v = some (.int 0) ∧ Fr n0 L ∧ h = h0
theorem rm13_2 (l : Launch) (Z : State) (a0 : Array Value) (hw : ∀ d ∈ tables_1, d.before a0 Z = true) (ws : List Jvm.Cond) {cw : Nat → Nat} {z_cs : Int32} (cx : Cx Z cw z_cs) (a1 : Addr) (h0 : Heap) (n0 : Nat) (O0 : Old Z n0 h0) (G0 : Fld Z h0 a1 sk18 "size" "I" (.int 2)) :
    OwnMet l ym17 (Jvm.Cond.code ym17 jdk_38_method_9_code 1 (some .boolean) :: ws) (own_R 0 0 0 0) #[(.ref a1)] Z h0 (Q_rm13_2 Z a1 cw z_cs h0 n0) := by
  refine own_body (plainFor_of_name pn_13) hisR fun p e s m below meth c s₁ hx hby hml hown hnm hret hZ X0 e0 => ?_
  have N0 := Fr.nil n0
  have pre0 : ∀ t, Go p e below s₁ (mkF m 0 #[vR a1] []) t → Go p e below s₁ (entryFrame m #[(.ref a1)] 1) t := fun t k => castTop (ef_13_R m a1) k
  have q21 := fun t (kt : Go p e below s₁ (mkF m 1 #[vR a1] [(.ref a1)]) t) => pre0 t (by
    show Go _ _ _ _ (mkF m 0 #[vR a1] []) _
    refine XS.aloadN X0.here hx rfl (hb hby d13_0) rfl rfl ?_
    exact kt)
  obtain ⟨T22, X22, e22, st22⟩ := getF X0 hx hZ hown (host := "") (Or.inl (ox hw 105 rfl)) Via.refl e0 G0 (g := (mkF m 1 #[vR a1] [(.ref a1)])) rfl rfl (hb hby d13_1)
  have q23 := fun t (kt : Go p e below T22 (mkF m 12 #[vR a1] [(.int 0)]) t) => q21 t (st22 t (by
    show Go _ _ _ _ (mkF m 4 #[vR a1] [(.int 2)]) _
    refine XS.ifYes X22.here hx rfl (pc0 := 4) (pc' := 11) rfl (hb hby d13_4) rfl ((if0 _ _).trans (feq (by decide : ¬ ((2 : Int32) = (0 : Int32)))).2) (by decide) (by decide) ?_
    show Go _ _ _ _ (mkF m 11 _ []) _
    refine XS.iconst X22.here hx rfl (hb hby d13_11) ?_
    exact kt))
  exact ⟨some (.int 0), T22, _, _, _, _, X22, by decide, by decide, nofun, q23, fun fs hr => retN X22 hx (t := .boolean) hret (by simp) (hb hby d13_12) hr, by rw [e22]; exact ⟨rfl, N0, rfl⟩⟩
def Q_rm13_3 (Z : State) (a1 : Addr) (cw : Nat → Nat) (z_cs : Int32) (h0 : Heap) (n0 : Nat) (v : Option Value) (h : Heap) (L : List Loc) : Prop := v = some (.int 0) ∧ Fr n0 L ∧ h = h0
theorem rm13_3 (l : Launch) (Z : State) (a0 : Array Value) (hw : ∀ d ∈ tables_1, d.before a0 Z = true) (ws : List Jvm.Cond) {cw : Nat → Nat} {z_cs : Int32} (cx : Cx Z cw z_cs) (a1 : Addr) (h0 : Heap) (n0 : Nat) (O0 : Old Z n0 h0) (G0 : Fld Z h0 a1 sk18 "size" "I" (.int 3)) :
    OwnMet l ym17 (Jvm.Cond.code ym17 jdk_38_method_9_code 1 (some .boolean) :: ws) (own_R 0 0 0 0) #[(.ref a1)] Z h0 (Q_rm13_3 Z a1 cw z_cs h0 n0) := by
  refine own_body (plainFor_of_name pn_13) hisR fun p e s m below meth c s₁ hx hby hml hown hnm hret hZ X0 e0 => ?_
  have N0 := Fr.nil n0
  have pre0 : ∀ t, Go p e below s₁ (mkF m 0 #[vR a1] []) t → Go p e below s₁ (entryFrame m #[(.ref a1)] 1) t := fun t k => castTop (ef_13_R m a1) k
  have q21 := fun t (kt : Go p e below s₁ (mkF m 1 #[vR a1] [(.ref a1)]) t) => pre0 t (by
    show Go _ _ _ _ (mkF m 0 #[vR a1] []) _
    refine XS.aloadN X0.here hx rfl (hb hby d13_0) rfl rfl ?_
    exact kt)
  obtain ⟨T22, X22, e22, st22⟩ := getF X0 hx hZ hown (host := "") (Or.inl (ox hw 105 rfl)) Via.refl e0 G0 (g := (mkF m 1 #[vR a1] [(.ref a1)])) rfl rfl (hb hby d13_1)
  have q23 := fun t (kt : Go p e below T22 (mkF m 12 #[vR a1] [(.int 0)]) t) => q21 t (st22 t (by
    show Go _ _ _ _ (mkF m 4 #[vR a1] [(.int 3)]) _
    refine XS.ifYes X22.here hx rfl (pc0 := 4) (pc' := 11) rfl (hb hby d13_4) rfl ((if0 _ _).trans (feq (by decide : ¬ ((3 : Int32) = (0 : Int32)))).2) (by decide) (by decide) ?_
    show Go _ _ _ _ (mkF m 11 _ []) _
    refine XS.iconst X22.here hx rfl (hb hby d13_11) ?_
    exact kt))
  exact ⟨some (.int 0), T22, _, _, _, _, X22, by decide, by decide, nofun, q23, fun fs hr => retN X22 hx (t := .boolean) hret (by simp) (hb hby d13_12) hr, by rw [e22]; exact ⟨rfl, N0, rfl⟩⟩
theorem ef_14_ (m : MethodId) : entryFrame m #[] 0 = mkF m 0 #[] [] := by first | (simp [entryFrame, mkF, argsToLocals, Value.category]; done) | rfl
theorem pn_14 : plainName "java/util/List" = true := by first | (simp [plainName, overriddenIn]; done) | decide +kernel
theorem d14_0 : decode jdk_40_method_36_code 0 = .ok (.getstatic 90, 3) := by decide +kernel
theorem d14_3 : decode jdk_40_method_36_code 3 = .ok (.areturn, 1) := by decide +kernel
def Q_rm14 (Z : State) (cw : Nat → Nat) (z_cs : Int32) (h0 : Heap) (n0 : Nat) (v : Option Value) (h : Heap) (L : List Loc) : Prop := v = some (.ref (cw 15)) ∧ Fr n0 L ∧ h = h0
theorem rm14 (l : Launch) (Z : State) (a0 : Array Value) (hw : ∀ d ∈ tables_1, d.before a0 Z = true) (ws : List Jvm.Cond) {cw : Nat → Nat} {z_cs : Int32} (cx : Cx Z cw z_cs) (h0 : Heap) (n0 : Nat) (O0 : Old Z n0 h0) :
    OwnMet l ym18 (Jvm.Cond.code ym18 jdk_40_method_36_code 0 (some (.object sk23)) :: ws) (own_R 0 0 0 0) #[] Z h0 (Q_rm14 Z  cw z_cs h0 n0) := by
  refine own_body (plainFor_of_name pn_14) hisR fun p e s m below meth c s₁ hx hby hml hown hnm hret hZ X0 e0 => ?_
  have N0 := Fr.nil n0
  have pre0 : ∀ t, Go p e below s₁ (mkF m 0 #[] []) t → Go p e below s₁ (entryFrame m #[] 0) t := fun t k => castTop (ef_14_ m ) k
  obtain ⟨T21, X21, e21, st21⟩ := getS2 X0 hx hZ hown (host := "") (Or.inl (ox hw 110 rfl)) Via.refl e0 (cx.2.2.2.2.2.2.2.2.2.2.2.2.2.2.2.2.2.2.2.2.2.2.2.2.2.2.2.2.2.2.2.1.ext O0.2) (g := (mkF m 0 #[] [])) rfl (hb hby d14_0)
  have q22 := fun t (kt : Go p e below T21 (mkF m 3 #[] [(.ref (cw 15))]) t) => pre0 t (st21 t kt)
  exact ⟨some (.ref (cw 15)), T21, _, _, _, _, X21, by decide, by decide, nofun, q22, fun fs hr => retOut X21 hx hret rfl (o4 ⟨rfl, rfl, rfl⟩) (hb hby d14_3) hr, by rw [e21]; exact ⟨rfl, N0, rfl⟩⟩
theorem ef_37_R (m : MethodId) (x0 : Addr) : entryFrame m #[(.ref x0)] 1 = mkF m 0 #[.val (.ref x0)] [] := by first | (simp [entryFrame, mkF, argsToLocals, Value.category]; done) | rfl
theorem pn_37 : plainName "java/util/Objects" = true := by first | (simp [plainName, overriddenIn]; done) | decide +kernel
theorem d37_0 : decode jdk_31_method_10_code 0 = .ok (.aload_n 0, 1) := by decide +kernel
theorem d37_1 : decode jdk_31_method_10_code 1 = .ok (.ifnonnull 11, 3) := by decide +kernel
theorem d37_12 : decode jdk_31_method_10_code 12 = .ok (.aload_n 0, 1) := by decide +kernel
theorem d37_13 : decode jdk_31_method_10_code 13 = .ok (.areturn, 1) := by decide +kernel
def Q_rm37 (Z : State) (a1 : Addr) (cw : Nat → Nat) (z_cs : Int32) (h0 : Heap) (n0 : Nat) (v : Option Value) (h : Heap) (L : List Loc) : Prop := v = some (.ref a1) ∧ Fr n0 L ∧ h = h0
theorem rm37 (l : Launch) (Z : State) (a0 : Array Value) (hw : ∀ d ∈ tables_1, d.before a0 Z = true) (ws : List Jvm.Cond) {cw : Nat → Nat} {z_cs : Int32} (cx : Cx Z cw z_cs) (a1 : Addr) (h0 : Heap) (n0 : Nat) (O0 : Old Z n0 h0) :
    OwnMet l ym19 (Jvm.Cond.code ym19 jdk_31_method_10_code 1 (some (.object sk14)) :: ws) (own_R 0 0 0 0) #[(.ref a1)] Z h0 (Q_rm37 Z a1 cw z_cs h0 n0) := by
  refine own_body (plainFor_of_name pn_37) hisR fun p e s m below meth c s₁ hx hby hml hown hnm hret hZ X0 e0 => ?_
  have N0 := Fr.nil n0
  have pre0 : ∀ t, Go p e below s₁ (mkF m 0 #[vR a1] []) t → Go p e below s₁ (entryFrame m #[(.ref a1)] 1) t := fun t k => castTop (ef_37_R m a1) k
  have q21 := fun t (kt : Go p e below s₁ (mkF m 13 #[vR a1] [(.ref a1)]) t) => pre0 t (by
    show Go _ _ _ _ (mkF m 0 #[vR a1] []) _
    refine XS.aloadN X0.here hx rfl (hb hby d37_0) rfl rfl ?_
    show Go _ _ _ _ (mkF m 1 _ [(.ref a1)]) _
    refine XS.ifnonnullYes X0.here hx rfl (pc0 := 1) (pc' := 12) rfl (hb hby d37_1) rfl (by decide) (by decide) ?_
    show Go _ _ _ _ (mkF m 12 _ []) _
    refine XS.aloadN X0.here hx rfl (hb hby d37_12) rfl rfl ?_
    exact kt)
  exact ⟨some (.ref a1), s₁, _, _, _, _, X0, by decide, by decide, nofun, q21, fun fs hr => retOut X0 hx hret rfl (o4 ⟨rfl, rfl, rfl⟩) (hb hby d37_13) hr, by rw [e0]; exact ⟨rfl, N0, rfl⟩⟩
theorem ef_40_R (m : MethodId) (x0 : Addr) : entryFrame m #[(.ref x0)] 1 = mkF m 0 #[.val (.ref x0)] [] := by first | (simp [entryFrame, mkF, argsToLocals, Value.category]; done) | rfl
theorem pn_40 : plainName "java/util/ImmutableCollections$AbstractImmutableCollection" = true := by first | (simp [plainName, overriddenIn]; done) | decide +kernel
theorem d40_0 : decode jdk_47_method_1_code 0 = .ok (.aload_n 0, 1) := by decide +kernel
theorem d40_1 : decode jdk_47_method_1_code 1 = .ok (.invokespecial 1, 3) := by decide +kernel
theorem d40_4 : decode jdk_47_method_1_code 4 = .ok (.return_, 1) := by decide +kernel
def Q_rm40 (Z : State) (a1 : Addr) (cw : Nat → Nat) (z_cs : Int32) (h0 : Heap) (n0 : Nat) (v : Option Value) (h : Heap) (L : List Loc) : Prop := v = none ∧ Fr n0 L ∧ h = h0
theorem rm40 (l : Launch) (Z : State) (a0 : Array Value) (hw : ∀ d ∈ tables_1, d.before a0 Z = true) (ws : List Jvm.Cond) {cw : Nat → Nat} {z_cs : Int32} (cx : Cx Z cw z_cs) (a1 : Addr) (h0 : Heap) (n0 : Nat) (O0 : Old Z n0 h0) :
    OwnMet l ym20 (Jvm.Cond.code ym20 jdk_47_method_1_code 1 none :: ws) (own_R 2 0 0 24) #[(.ref a1)] Z h0 (Q_rm40 Z a1 cw z_cs h0 n0) := by
  refine own_body (plainFor_of_name pn_40) hisR fun p e s m below meth c s₁ hx hby hml hown hnm hret hZ X0 e0 => ?_
  have N0 := Fr.nil n0
  have pre0 : ∀ t, Go p e below s₁ (mkF m 0 #[vR a1] []) t → Go p e below s₁ (entryFrame m #[(.ref a1)] 1) t := fun t k => castTop (ef_40_R m a1) k
  have q21 := fun t (kt : Go p e below s₁ (mkF m 1 #[vR a1] [(.ref a1)]) t) => pre0 t (by
    show Go _ _ _ _ (mkF m 0 #[vR a1] []) _
    refine XS.aloadN X0.here hx rfl (hb hby d40_0) rfl rfl ?_
    exact kt)
  obtain ⟨_, _, ⟨T22, L22, k22, n22⟩, -, X22, ⟨_, hQ22, l22, y22, z22⟩, st22⟩ := X0.specialBack hx (y := ym0) rfl hown (ow hZ hw 290 rfl) (ow hZ hw 64 rfl) (ow hZ hw 68 rfl) (by decide) (backOf (W := 0) (rm9 l Z a0 hw [] cx a1 h0 n0 O0 ) hZ (ox hw 68 rfl) (ox hw 67 rfl) (by decide) (by decide)) (g := (mkF m 1 #[vR a1] [(.ref a1)])) rfl (by rw [hml]; rfl) (Steps.refl _) (a := a1) (argsL := []) (rest := []) (lenOf pd_0 rfl) rfl own_le0 (hb hby d40_1) (fun _ _ => ⟨rfl, e0, (by decide : 0 + 0 ≤ _), (by decide : 0 + 0 ≤ _)⟩)
  dsimp only [Pt.U, Pt.locs, Pt.cells, Pt.slots] at X22 l22 y22 z22 st22 hQ22
  subst l22 y22 z22
  obtain ⟨rfl, Nq22, eq22⟩ := hQ22
  have N23 := Fr.app N0 Nq22
  have q24 := fun t (kt : Go p e below T22 (mkF m 4 #[vR a1] []) t) => q21 t (st22.trans kt)
  exact ⟨none, T22, _, _, _, _, X22, by decide, by decide, fun _ => rfl, q24, fun fs hr => X22.returnOut hx hret (hb hby d40_4) hr, by rw [eq22]; exact ⟨rfl, N23, rfl⟩⟩
theorem ef_39_R (m : MethodId) (x0 : Addr) : entryFrame m #[(.ref x0)] 1 = mkF m 0 #[.val (.ref x0)] [] := by first | (simp [entryFrame, mkF, argsToLocals, Value.category]; done) | rfl
theorem pn_39 : plainName "java/util/ImmutableCollections$AbstractImmutableList" = true := by first | (simp [plainName, overriddenIn]; done) | decide +kernel
theorem d39_0 : decode jdk_46_method_1_code 0 = .ok (.aload_n 0, 1) := by decide +kernel
theorem d39_1 : decode jdk_46_method_1_code 1 = .ok (.invokespecial 1, 3) := by decide +kernel
theorem d39_4 : decode jdk_46_method_1_code 4 = .ok (.return_, 1) := by decide +kernel
def Q_rm39 (Z : State) (a1 : Addr) (cw : Nat → Nat) (z_cs : Int32) (h0 : Heap) (n0 : Nat) (v : Option Value) (h : Heap) (L : List Loc) : Prop := v = none ∧ Fr n0 L ∧ h = h0
theorem rm39 (l : Launch) (Z : State) (a0 : Array Value) (hw : ∀ d ∈ tables_1, d.before a0 Z = true) (ws : List Jvm.Cond) {cw : Nat → Nat} {z_cs : Int32} (cx : Cx Z cw z_cs) (a1 : Addr) (h0 : Heap) (n0 : Nat) (O0 : Old Z n0 h0) :
    OwnMet l ym21 (Jvm.Cond.code ym21 jdk_46_method_1_code 1 none :: ws) (own_R 3 0 0 36) #[(.ref a1)] Z h0 (Q_rm39 Z a1 cw z_cs h0 n0) := by
  refine own_body (plainFor_of_name pn_39) hisR fun p e s m below meth c s₁ hx hby hml hown hnm hret hZ X0 e0 => ?_
  have N0 := Fr.nil n0
  have pre0 : ∀ t, Go p e below s₁ (mkF m 0 #[vR a1] []) t → Go p e below s₁ (entryFrame m #[(.ref a1)] 1) t := fun t k => castTop (ef_39_R m a1) k
  have q21 := fun t (kt : Go p e below s₁ (mkF m 1 #[vR a1] [(.ref a1)]) t) => pre0 t (by
    show Go _ _ _ _ (mkF m 0 #[vR a1] []) _
    refine XS.aloadN X0.here hx rfl (hb hby d39_0) rfl rfl ?_
    exact kt)
  obtain ⟨_, _, ⟨T22, L22, k22, n22⟩, -, X22, ⟨_, hQ22, l22, y22, z22⟩, st22⟩ := X0.specialBack hx (y := ym20) rfl hown (ow hZ hw 284 rfl) (ow hZ hw 285 rfl) (ow hZ hw 289 rfl) (by decide) (backOf (W := 0) (rm40 l Z a0 hw [] cx a1 h0 n0 O0 ) hZ (ox hw 289 rfl) (ox hw 288 rfl) (by decide) (by decide)) (g := (mkF m 1 #[vR a1] [(.ref a1)])) rfl (by rw [hml]; rfl) (Steps.refl _) (a := a1) (argsL := []) (rest := []) (lenOf pd_0 rfl) rfl own_le0 (hb hby d39_1) (fun _ _ => ⟨rfl, e0, (by decide : 0 + 0 ≤ _), (by decide : 0 + 0 ≤ _)⟩)
  dsimp only [Pt.U, Pt.locs, Pt.cells, Pt.slots] at X22 l22 y22 z22 st22 hQ22
  subst l22 y22 z22
  obtain ⟨rfl, Nq22, eq22⟩ := hQ22
  have N23 := Fr.app N0 Nq22
  have q24 := fun t (kt : Go p e below T22 (mkF m 4 #[vR a1] []) t) => q21 t (st22.trans kt)
  exact ⟨none, T22, _, _, _, _, X22, by decide, by decide, fun _ => rfl, q24, fun fs hr => X22.returnOut hx hret (hb hby d39_4) hr, by rw [eq22]; exact ⟨rfl, N23, rfl⟩⟩
theorem ef_38_RRI (m : MethodId) (x0 : Addr) (x1 : Addr) (x2 : Int32) : entryFrame m #[(.ref x0), (.ref x1), (.int x2)] 3 = mkF m 0 #[.val (.ref x0), .val (.ref x1), .val (.int x2)] [] := by first | (simp [entryFrame, mkF, argsToLocals, Value.category]; done) | rfl
theorem pn_38 : plainName "java/util/ImmutableCollections$ListN" = true := by first | (simp [plainName, overriddenIn]; done) | decide +kernel
theorem d38_0 : decode jdk_45_method_1_code 0 = .ok (.aload_n 0, 1) := by decide +kernel
theorem d38_1 : decode jdk_45_method_1_code 1 = .ok (.invokespecial 1, 3) := by decide +kernel
theorem d38_4 : decode jdk_45_method_1_code 4 = .ok (.aload_n 0, 1) := by decide +kernel
theorem d38_5 : decode jdk_45_method_1_code 5 = .ok (.aload_n 1, 1) := by decide +kernel
theorem d38_6 : decode jdk_45_method_1_code 6 = .ok (.putfield 7, 3) := by decide +kernel
theorem d38_9 : decode jdk_45_method_1_code 9 = .ok (.aload_n 0, 1) := by decide +kernel
theorem d38_10 : decode jdk_45_method_1_code 10 = .ok (.iload_n 2, 1) := by decide +kernel
theorem d38_11 : decode jdk_45_method_1_code 11 = .ok (.putfield 13, 3) := by decide +kernel
theorem d38_14 : decode jdk_45_method_1_code 14 = .ok (.return_, 1) := by decide +kernel
def Q_rm38 (Z : State) (a1 : Addr) (a2 : Addr) (cw : Nat → Nat) (z_cs : Int32) (h0 : Heap) (n0 : Nat) (v : Option Value) (h : Heap) (L : List Loc) : Prop := v = none ∧ Fr n0 L ∧ Keep h0 h [a1] ∧ Fld Z h a1 sk21 "elements" sk6 (.ref a2)
theorem rm38 (l : Launch) (Z : State) (a0 : Array Value) (hw : ∀ d ∈ tables_1, d.before a0 Z = true) (ws : List Jvm.Cond) {cw : Nat → Nat} {z_cs : Int32} (cx : Cx Z cw z_cs) (a1 : Addr) (a2 : Addr) (h0 : Heap) (n0 : Nat) (O0 : Old Z n0 h0) (G0 : Exa Z h0 a1 sk21) (G1 : Fld Z h0 a1 sk21 "elements" sk6 .null) (G2 : Fld Z h0 a1 sk21 "allowNulls" "Z" (.int 0)) (g_a1 : n0 ≤ a1) :
    OwnMet l ym22 (Jvm.Cond.code ym22 jdk_45_method_1_code 3 none :: ws) (own_R 4 0 0 48) #[(.ref a1), (.ref a2), (.int 0)] Z h0 (Q_rm38 Z a1 a2 cw z_cs h0 n0) := by
  refine own_body (plainFor_of_name pn_38) hisR fun p e s m below meth c s₁ hx hby hml hown hnm hret hZ X0 e0 => ?_
  have N0 := Fr.nil n0
  have K0 : Keep h0 h0 [a1] := Keep.refl _ _
  have pre0 : ∀ t, Go p e below s₁ (mkF m 0 #[vR a1, vR a2, vI 0] []) t → Go p e below s₁ (entryFrame m #[(.ref a1), (.ref a2), (.int 0)] 3) t := fun t k => castTop (ef_38_RRI m a1 a2 (0 : Int32)) k
  have q21 := fun t (kt : Go p e below s₁ (mkF m 1 #[vR a1, vR a2, vI 0] [(.ref a1)]) t) => pre0 t (by
    show Go _ _ _ _ (mkF m 0 #[vR a1, vR a2, vI 0] []) _
    refine XS.aloadN X0.here hx rfl (hb hby d38_0) rfl rfl ?_
    exact kt)
  obtain ⟨_, _, ⟨T22, L22, k22, n22⟩, -, X22, ⟨_, hQ22, l22, y22, z22⟩, st22⟩ := X0.specialBack hx (y := ym21) rfl hown (ow hZ hw 279 rfl) (ow hZ hw 280 rfl) (ow hZ hw 283 rfl) (by decide) (backOf (W := 0) (rm39 l Z a0 hw [] cx a1 h0 n0 O0 ) hZ (ox hw 283 rfl) (ox hw 128 rfl) (by decide) (by decide)) (g := (mkF m 1 #[vR a1, vR a2, vI 0] [(.ref a1)])) rfl (by rw [hml]; rfl) (Steps.refl _) (a := a1) (argsL := []) (rest := []) (lenOf pd_0 rfl) rfl own_le0 (hb hby d38_1) (fun _ _ => ⟨rfl, e0, (by decide : 0 + 0 ≤ _), (by decide : 0 + 0 ≤ _)⟩)
  dsimp only [Pt.U, Pt.locs, Pt.cells, Pt.slots] at X22 l22 y22 z22 st22 hQ22
  subst l22 y22 z22
  obtain ⟨rfl, Nq22, eq22⟩ := hQ22
  have N23 := Fr.app N0 Nq22
  have q24 := fun t (kt : Go p e below T22 (mkF m 6 #[vR a1, vR a2, vI 0] [(.ref a2), (.ref a1)]) t) => q21 t (st22.trans (by
    show Go _ _ _ _ (mkF m 4 #[vR a1, vR a2, vI 0] []) _
    refine XS.aloadN X22.here hx rfl (hb hby d38_4) rfl rfl ?_
    show Go _ _ _ _ (mkF m 5 _ [(.ref a1)]) _
    refine XS.aloadN X22.here hx rfl (hb hby d38_5) rfl rfl ?_
    exact kt))
  obtain ⟨T25, h25, X25, e25, W25, st25⟩ := putF X22 hx hZ hown (host := "") (Or.inl (ox hw 140 rfl)) Via.refl eq22 G1 G0 (Or.inr ⟨(ox hw 141 rfl), rfl, hnm⟩) (ox hw 274 rfl) (ty := (.array (.object sk14))) (by decide) rfl rfl (g := (mkF m 6 #[vR a1, vR a2, vI 0] [(.ref a2), (.ref a1)])) rfl rfl (hb hby d38_6)
  have f26 : Fld Z h25 a1 sk21 "elements" sk6 (.ref a2) := G1.same W25
  have N27 := Fr.snoc X25 N23 g_a1
  have O28 := O0.wr W25 g_a1
  have K29 := K0.wr W25 (Or.inl (List.mem_of_getElem? (i := 0) rfl))
  have f30 := (G0.wr W25)
  have f31 := (G2.other W25 (Or.inr (slot_ne (Or.inr (ox hw 293 rfl)) (Or.inr (ox hw 141 rfl)) (by decide) (t := .boolean) (t' := (.array (.object sk14))) (by decide) (by decide))))
  have q32 := fun t (kt : Go p e below T25 (mkF m 11 #[vR a1, vR a2, vI 0] [(.int 0), (.ref a1)]) t) => q24 t (st25 t (by
    show Go _ _ _ _ (mkF m 9 #[vR a1, vR a2, vI 0] []) _
    refine XS.aloadN X25.here hx rfl (hb hby d38_9) rfl rfl ?_
    show Go _ _ _ _ (mkF m 10 _ [(.ref a1)]) _
    refine XS.iloadN X25.here hx rfl (hb hby d38_10) rfl ?_
    exact kt))
  obtain ⟨T33, h33, X33, e33, W33, st33⟩ := putFN X25 hx hZ hown (ox hw 292 rfl) Via.refl e25 f31 f30 (Or.inr ⟨(ox hw 293 rfl), rfl, hnm⟩) (ox hw 274 rfl) (ty := .boolean) (v' := (.int 0)) (by decide) rfl rfl (g := (mkF m 11 #[vR a1, vR a2, vI 0] [(.int 0), (.ref a1)])) rfl rfl (hb hby d38_11)
  have f34 : Fld Z h33 a1 sk21 "allowNulls" "Z" (.int 0) := f31.same W33
  have N35 := Fr.snoc X33 N27 g_a1
  have O36 := O28.wr W33 g_a1
  have K37 := K29.wr W33 (Or.inl (List.mem_of_getElem? (i := 0) rfl))
  have q38 := fun t (kt : Go p e below T33 (mkF m 14 #[vR a1, vR a2, vI 0] []) t) => q32 t (st33 t kt)
  have f39 := (f26.other W33 (Or.inr (slot_ne (Or.inr (ox hw 141 rfl)) (Or.inr (ox hw 293 rfl)) (by decide) (t := (.array (.object sk14))) (t' := .boolean) (by decide) (by decide))))
  exact ⟨none, T33, _, _, _, _, X33, by decide, by decide, fun _ => rfl, q38, fun fs hr => X33.returnOut hx hret (hb hby d38_14) hr, by rw [e33]; exact ⟨rfl, N35, K37, f39⟩⟩
theorem ef_41_RR (m : MethodId) (x0 : Addr) (x1 : Addr) : entryFrame m #[(.ref x0), (.ref x1)] 2 = mkF m 0 #[.val (.ref x0), .val (.ref x1)] [] := by first | (simp [entryFrame, mkF, argsToLocals, Value.category]; done) | rfl
theorem pn_41 : plainName "java/util/ImmutableCollections$List12" = true := by first | (simp [plainName, overriddenIn]; done) | decide +kernel
theorem d41_0 : decode jdk_44_method_1_code 0 = .ok (.aload_n 0, 1) := by decide +kernel
theorem d41_1 : decode jdk_44_method_1_code 1 = .ok (.invokespecial 1, 3) := by decide +kernel
theorem d41_4 : decode jdk_44_method_1_code 4 = .ok (.aload_n 0, 1) := by decide +kernel
theorem d41_5 : decode jdk_44_method_1_code 5 = .ok (.aload_n 1, 1) := by decide +kernel
theorem d41_6 : decode jdk_44_method_1_code 6 = .ok (.invokestatic 7, 3) := by decide +kernel
theorem pd_11 : parseMethodDescriptor "(Ljava/lang/Object;)Ljava/lang/Object;" = some ⟨[(.object "java/lang/Object")], some (.object "java/lang/Object")⟩ := by decide +kernel
theorem d41_9 : decode jdk_44_method_1_code 9 = .ok (.putfield 13, 3) := by decide +kernel
theorem d41_12 : decode jdk_44_method_1_code 12 = .ok (.aload_n 0, 1) := by decide +kernel
theorem d41_13 : decode jdk_44_method_1_code 13 = .ok (.getstatic 19, 3) := by decide +kernel
theorem d41_16 : decode jdk_44_method_1_code 16 = .ok (.putfield 24, 3) := by decide +kernel
theorem d41_19 : decode jdk_44_method_1_code 19 = .ok (.return_, 1) := by decide +kernel
def Q_rm41 (Z : State) (a1 : Addr) (a2 : Addr) (cw : Nat → Nat) (z_cs : Int32) (h0 : Heap) (n0 : Nat) (v : Option Value) (h : Heap) (L : List Loc) : Prop := v = none ∧ Fr n0 L ∧ Keep h0 h [a1] ∧ Fld Z h a1 sk19 "e0" sk3 (.ref a2) ∧ Fld Z h a1 sk19 "e1" sk3 (.ref (cw 19))
theorem rm41 (l : Launch) (Z : State) (a0 : Array Value) (hw : ∀ d ∈ tables_1, d.before a0 Z = true) (ws : List Jvm.Cond) {cw : Nat → Nat} {z_cs : Int32} (cx : Cx Z cw z_cs) (a1 : Addr) (a2 : Addr) (h0 : Heap) (n0 : Nat) (O0 : Old Z n0 h0) (G0 : Exa Z h0 a1 sk19) (G1 : Fld Z h0 a1 sk19 "e0" sk3 .null) (G2 : Fld Z h0 a1 sk19 "e1" sk3 .null) (g_a1 : n0 ≤ a1) :
    OwnMet l ym23 (Jvm.Cond.code ym23 jdk_44_method_1_code 2 none :: ws) (own_R 4 0 0 48) #[(.ref a1), (.ref a2)] Z h0 (Q_rm41 Z a1 a2 cw z_cs h0 n0) := by
  refine own_body (plainFor_of_name pn_41) hisR fun p e s m below meth c s₁ hx hby hml hown hnm hret hZ X0 e0 => ?_
  have N0 := Fr.nil n0
  have K0 : Keep h0 h0 [a1] := Keep.refl _ _
  have pre0 : ∀ t, Go p e below s₁ (mkF m 0 #[vR a1, vR a2] []) t → Go p e below s₁ (entryFrame m #[(.ref a1), (.ref a2)] 2) t := fun t k => castTop (ef_41_RR m a1 a2) k
  have q21 := fun t (kt : Go p e below s₁ (mkF m 1 #[vR a1, vR a2] [(.ref a1)]) t) => pre0 t (by
    show Go _ _ _ _ (mkF m 0 #[vR a1, vR a2] []) _
    refine XS.aloadN X0.here hx rfl (hb hby d41_0) rfl rfl ?_
    exact kt)
  obtain ⟨_, _, ⟨T22, L22, k22, n22⟩, -, X22, ⟨_, hQ22, l22, y22, z22⟩, st22⟩ := X0.specialBack hx (y := ym21) rfl hown (ow hZ hw 301 rfl) (ow hZ hw 280 rfl) (ow hZ hw 283 rfl) (by decide) (backOf (W := 0) (rm39 l Z a0 hw [] cx a1 h0 n0 O0 ) hZ (ox hw 283 rfl) (ox hw 128 rfl) (by decide) (by decide)) (g := (mkF m 1 #[vR a1, vR a2] [(.ref a1)])) rfl (by rw [hml]; rfl) (Steps.refl _) (a := a1) (argsL := []) (rest := []) (lenOf pd_0 rfl) rfl own_le0 (hb hby d41_1) (fun _ _ => ⟨rfl, e0, (by decide : 0 + 0 ≤ _), (by decide : 0 + 0 ≤ _)⟩)
  dsimp only [Pt.U, Pt.locs, Pt.cells, Pt.slots] at X22 l22 y22 z22 st22 hQ22
  subst l22 y22 z22
  obtain ⟨rfl, Nq22, eq22⟩ := hQ22
  have N23 := Fr.app N0 Nq22
  have q24 := fun t (kt : Go p e below T22 (mkF m 6 #[vR a1, vR a2] [(.ref a2), (.ref a1)]) t) => q21 t (st22.trans (by
    show Go _ _ _ _ (mkF m 4 #[vR a1, vR a2] []) _
    refine XS.aloadN X22.here hx rfl (hb hby d41_4) rfl rfl ?_
    show Go _ _ _ _ (mkF m 5 _ [(.ref a1)]) _
    refine XS.aloadN X22.here hx rfl (hb hby d41_5) rfl rfl ?_
    exact kt))
  obtain ⟨_, _, ⟨T25, L25, k25, n25⟩, -, X25, ⟨_, hQ25, l25, y25, z25⟩, st25⟩ := Jvm.LawKit.callS X22 hx (y := ym19) hown (ow hZ hw 305 rfl) (ow hZ hw 271 rfl) (ow hZ hw 272 rfl) (ow hZ hw 273 rfl) (by decide) (backOf (W := 1) (rm37 l Z a0 hw [] cx a2 h0 n0 O0 ) hZ (ox hw 273 rfl) (ox hw 272 rfl) (by decide) (by decide)) (g := (mkF m 6 #[vR a1, vR a2] [(.ref a2), (.ref a1)])) rfl (by rw [hml]; rfl) (argsL := [(.ref a2)]) (rest := [(.ref a1)]) (lenOf pd_11 rfl) rfl own_le0 (hb hby d41_6) (fun _ _ => ⟨rfl, eq22, (by decide : 0 + 0 ≤ _), (by decide : 0 + 0 ≤ _)⟩)
  dsimp only [Pt.U, Pt.locs, Pt.cells, Pt.slots] at X25 l25 y25 z25 st25 hQ25
  subst l25 y25 z25
  obtain ⟨rfl, Nq25, eq25⟩ := hQ25
  have N26 := Fr.app N23 Nq25
  obtain ⟨T27, h27, X27, e27, W27, st27⟩ := putF X25 hx hZ hown (host := "") (Or.inl (ox hw 306 rfl)) Via.refl eq25 G1 G0 (Or.inr ⟨(ox hw 307 rfl), rfl, hnm⟩) (ox hw 295 rfl) (ty := (.object sk14)) (by decide) rfl rfl (g := (mkF m 9 #[vR a1, vR a2] [(.ref a2), (.ref a1)])) rfl rfl (hb hby d41_9)
  have f28 : Fld Z h27 a1 sk19 "e0" sk3 (.ref a2) := G1.same W27
  have N29 := Fr.snoc X27 N26 g_a1
  have O30 := O0.wr W27 g_a1
  have K31 := K0.wr W27 (Or.inl (List.mem_of_getElem? (i := 0) rfl))
  have q32 := fun t (kt : Go p e below T27 (mkF m 13 #[vR a1, vR a2] [(.ref a1)]) t) => q24 t (st25 t (st27 t (by
    show Go _ _ _ _ (mkF m 12 #[vR a1, vR a2] []) _
    refine XS.aloadN X27.here hx rfl (hb hby d41_12) rfl rfl ?_
    exact kt)))
  obtain ⟨T33, X33, e33, st33⟩ := getS2 X27 hx hZ hown (Or.inr (ox hw 308 rfl)) Via.refl e27 (cx.2.2.2.2.2.2.2.2.2.2.2.2.2.2.2.2.2.2.2.2.2.2.2.2.2.2.2.2.2.2.2.2.2.2.2.2.2.2.2.2.1.ext O30.2) (g := (mkF m 13 #[vR a1, vR a2] [(.ref a1)])) rfl (hb hby d41_13)
  have f34 := (G0.wr W27)
  have f35 := (G2.other W27 (Or.inr (slot_ne (Or.inr (ox hw 310 rfl)) (Or.inr (ox hw 307 rfl)) (by decide) (t := (.object sk14)) (t' := (.object sk14)) (by decide) (by decide))))
  obtain ⟨T36, h36, X36, e36, W36, st36⟩ := putF X33 hx hZ hown (host := "") (Or.inl (ox hw 309 rfl)) Via.refl e33 f35 f34 (Or.inr ⟨(ox hw 310 rfl), rfl, hnm⟩) (ox hw 295 rfl) (ty := (.object sk14)) (by decide) rfl rfl (g := (mkF m 16 #[vR a1, vR a2] [(.ref (cw 19)), (.ref a1)])) rfl rfl (hb hby d41_16)
  have f37 : Fld Z h36 a1 sk19 "e1" sk3 (.ref (cw 19)) := f35.same W36
  have N38 := Fr.snoc X36 N29 g_a1
  have O39 := O30.wr W36 g_a1
  have K40 := K31.wr W36 (Or.inl (List.mem_of_getElem? (i := 0) rfl))
  have q41 := fun t (kt : Go p e below T36 (mkF m 19 #[vR a1, vR a2] []) t) => q32 t (st33 t (st36 t kt))
  have f42 := (f28.other W36 (Or.inr (slot_ne (Or.inr (ox hw 307 rfl)) (Or.inr (ox hw 310 rfl)) (by decide) (t := (.object sk14)) (t' := (.object sk14)) (by decide) (by decide))))
  exact ⟨none, T36, _, _, _, _, X36, by decide, by decide, fun _ => rfl, q41, fun fs hr => X36.returnOut hx hret (hb hby d41_19) hr, by rw [e36]; exact ⟨rfl, N38, K40, f42, f37⟩⟩
theorem ef_50_RRR (m : MethodId) (x0 : Addr) (x1 : Addr) (x2 : Addr) : entryFrame m #[(.ref x0), (.ref x1), (.ref x2)] 3 = mkF m 0 #[.val (.ref x0), .val (.ref x1), .val (.ref x2)] [] := by first | (simp [entryFrame, mkF, argsToLocals, Value.category]; done) | rfl
theorem pn_50 : plainName "java/util/ImmutableCollections$List12" = true := by first | (simp [plainName, overriddenIn]; done) | decide +kernel
theorem d50_0 : decode jdk_44_method_2_code 0 = .ok (.aload_n 0, 1) := by decide +kernel
theorem d50_1 : decode jdk_44_method_2_code 1 = .ok (.invokespecial 1, 3) := by decide +kernel
theorem d50_4 : decode jdk_44_method_2_code 4 = .ok (.aload_n 0, 1) := by decide +kernel
theorem d50_5 : decode jdk_44_method_2_code 5 = .ok (.aload_n 1, 1) := by decide +kernel
theorem d50_6 : decode jdk_44_method_2_code 6 = .ok (.invokestatic 7, 3) := by decide +kernel
theorem d50_9 : decode jdk_44_method_2_code 9 = .ok (.putfield 13, 3) := by decide +kernel
theorem d50_12 : decode jdk_44_method_2_code 12 = .ok (.aload_n 0, 1) := by decide +kernel
theorem d50_13 : decode jdk_44_method_2_code 13 = .ok (.aload_n 2, 1) := by decide +kernel
theorem d50_14 : decode jdk_44_method_2_code 14 = .ok (.invokestatic 7, 3) := by decide +kernel
theorem d50_17 : decode jdk_44_method_2_code 17 = .ok (.putfield 24, 3) := by decide +kernel
theorem d50_20 : decode jdk_44_method_2_code 20 = .ok (.return_, 1) := by decide +kernel
def Q_rm50 (Z : State) (a1 : Addr) (a2 : Addr) (a3 : Addr) (cw : Nat → Nat) (z_cs : Int32) (h0 : Heap) (n0 : Nat) (v : Option Value) (h : Heap) (L : List Loc) : Prop := v = none ∧ Fr n0 L ∧ Keep h0 h [a1] ∧ Fld Z h a1 sk19 "e0" sk3 (.ref a2) ∧ Fld Z h a1 sk19 "e1" sk3 (.ref a3)
theorem rm50 (l : Launch) (Z : State) (a0 : Array Value) (hw : ∀ d ∈ tables_1, d.before a0 Z = true) (ws : List Jvm.Cond) {cw : Nat → Nat} {z_cs : Int32} (cx : Cx Z cw z_cs) (a1 : Addr) (a2 : Addr) (a3 : Addr) (h0 : Heap) (n0 : Nat) (O0 : Old Z n0 h0) (G0 : Exa Z h0 a1 sk19) (G1 : Fld Z h0 a1 sk19 "e0" sk3 .null) (G2 : Fld Z h0 a1 sk19 "e1" sk3 .null) (g_a1 : n0 ≤ a1) :
    OwnMet l ym24 (Jvm.Cond.code ym24 jdk_44_method_2_code 3 none :: ws) (own_R 4 0 0 48) #[(.ref a1), (.ref a2), (.ref a3)] Z h0 (Q_rm50 Z a1 a2 a3 cw z_cs h0 n0) := by
  refine own_body (plainFor_of_name pn_50) hisR fun p e s m below meth c s₁ hx hby hml hown hnm hret hZ X0 e0 => ?_
  have N0 := Fr.nil n0
  have K0 : Keep h0 h0 [a1] := Keep.refl _ _
  have pre0 : ∀ t, Go p e below s₁ (mkF m 0 #[vR a1, vR a2, vR a3] []) t → Go p e below s₁ (entryFrame m #[(.ref a1), (.ref a2), (.ref a3)] 3) t := fun t k => castTop (ef_50_RRR m a1 a2 a3) k
  have q21 := fun t (kt : Go p e below s₁ (mkF m 1 #[vR a1, vR a2, vR a3] [(.ref a1)]) t) => pre0 t (by
    show Go _ _ _ _ (mkF m 0 #[vR a1, vR a2, vR a3] []) _
    refine XS.aloadN X0.here hx rfl (hb hby d50_0) rfl rfl ?_
    exact kt)
  obtain ⟨_, _, ⟨T22, L22, k22, n22⟩, -, X22, ⟨_, hQ22, l22, y22, z22⟩, st22⟩ := X0.specialBack hx (y := ym21) rfl hown (ow hZ hw 301 rfl) (ow hZ hw 280 rfl) (ow hZ hw 283 rfl) (by decide) (backOf (W := 0) (rm39 l Z a0 hw [] cx a1 h0 n0 O0 ) hZ (ox hw 283 rfl) (ox hw 128 rfl) (by decide) (by decide)) (g := (mkF m 1 #[vR a1, vR a2, vR a3] [(.ref a1)])) rfl (by rw [hml]; rfl) (Steps.refl _) (a := a1) (argsL := []) (rest := []) (lenOf pd_0 rfl) rfl own_le0 (hb hby d50_1) (fun _ _ => ⟨rfl, e0, (by decide : 0 + 0 ≤ _), (by decide : 0 + 0 ≤ _)⟩)
  dsimp only [Pt.U, Pt.locs, Pt.cells, Pt.slots] at X22 l22 y22 z22 st22 hQ22
  subst l22 y22 z22
  obtain ⟨rfl, Nq22, eq22⟩ := hQ22
  have N23 := Fr.app N0 Nq22
  have q24 := fun t (kt : Go p e below T22 (mkF m 6 #[vR a1, vR a2, vR a3] [(.ref a2), (.ref a1)]) t) => q21 t (st22.trans (by
    show Go _ _ _ _ (mkF m 4 #[vR a1, vR a2, vR a3] []) _
    refine XS.aloadN X22.here hx rfl (hb hby d50_4) rfl rfl ?_
    show Go _ _ _ _ (mkF m 5 _ [(.ref a1)]) _
    refine XS.aloadN X22.here hx rfl (hb hby d50_5) rfl rfl ?_
    exact kt))
  obtain ⟨_, _, ⟨T25, L25, k25, n25⟩, -, X25, ⟨_, hQ25, l25, y25, z25⟩, st25⟩ := Jvm.LawKit.callS X22 hx (y := ym19) hown (ow hZ hw 305 rfl) (ow hZ hw 271 rfl) (ow hZ hw 272 rfl) (ow hZ hw 273 rfl) (by decide) (backOf (W := 1) (rm37 l Z a0 hw [] cx a2 h0 n0 O0 ) hZ (ox hw 273 rfl) (ox hw 272 rfl) (by decide) (by decide)) (g := (mkF m 6 #[vR a1, vR a2, vR a3] [(.ref a2), (.ref a1)])) rfl (by rw [hml]; rfl) (argsL := [(.ref a2)]) (rest := [(.ref a1)]) (lenOf pd_11 rfl) rfl own_le0 (hb hby d50_6) (fun _ _ => ⟨rfl, eq22, (by decide : 0 + 0 ≤ _), (by decide : 0 + 0 ≤ _)⟩)
  dsimp only [Pt.U, Pt.locs, Pt.cells, Pt.slots] at X25 l25 y25 z25 st25 hQ25
  subst l25 y25 z25
  obtain ⟨rfl, Nq25, eq25⟩ := hQ25
  have N26 := Fr.app N23 Nq25
  obtain ⟨T27, h27, X27, e27, W27, st27⟩ := putF X25 hx hZ hown (host := "") (Or.inl (ox hw 306 rfl)) Via.refl eq25 G1 G0 (Or.inr ⟨(ox hw 307 rfl), rfl, hnm⟩) (ox hw 295 rfl) (ty := (.object sk14)) (by decide) rfl rfl (g := (mkF m 9 #[vR a1, vR a2, vR a3] [(.ref a2), (.ref a1)])) rfl rfl (hb hby d50_9)
  have f28 : Fld Z h27 a1 sk19 "e0" sk3 (.ref a2) := G1.same W27
  have N29 := Fr.snoc X27 N26 g_a1
  have O30 := O0.wr W27 g_a1
  have K31 := K0.wr W27 (Or.inl (List.mem_of_getElem? (i := 0) rfl))
  have q32 := fun t (kt : Go p e below T27 (mkF m 14 #[vR a1, vR a2, vR a3] [(.ref a3), (.ref a1)]) t) => q24 t (st25 t (st27 t (by
    show Go _ _ _ _ (mkF m 12 #[vR a1, vR a2, vR a3] []) _
    refine XS.aloadN X27.here hx rfl (hb hby d50_12) rfl rfl ?_
    show Go _ _ _ _ (mkF m 13 _ [(.ref a1)]) _
    refine XS.aloadN X27.here hx rfl (hb hby d50_13) rfl rfl ?_
    exact kt)))
  obtain ⟨_, _, ⟨T33, L33, k33, n33⟩, -, X33, ⟨_, hQ33, l33, y33, z33⟩, st33⟩ := Jvm.LawKit.callS X27 hx (y := ym19) hown (ow hZ hw 305 rfl) (ow hZ hw 271 rfl) (ow hZ hw 272 rfl) (ow hZ hw 273 rfl) (by decide) (backOf (W := 1) (rm37 l Z a0 hw [] cx a3 h27 n0 O30 ) hZ (ox hw 273 rfl) (ox hw 272 rfl) (by decide) (by decide)) (g := (mkF m 14 #[vR a1, vR a2, vR a3] [(.ref a3), (.ref a1)])) rfl (by rw [hml]; rfl) (argsL := [(.ref a3)]) (rest := [(.ref a1)]) (lenOf pd_11 rfl) rfl own_le0 (hb hby d50_14) (fun _ _ => ⟨rfl, e27, (by decide : 0 + 0 ≤ _), (by decide : 0 + 0 ≤ _)⟩)
  dsimp only [Pt.U, Pt.locs, Pt.cells, Pt.slots] at X33 l33 y33 z33 st33 hQ33
  subst l33 y33 z33
  obtain ⟨rfl, Nq33, eq33⟩ := hQ33
  have N34 := Fr.app N29 Nq33
  have f35 := (G0.wr W27)
  have f36 := (G2.other W27 (Or.inr (slot_ne (Or.inr (ox hw 310 rfl)) (Or.inr (ox hw 307 rfl)) (by decide) (t := (.object sk14)) (t' := (.object sk14)) (by decide) (by decide))))
  obtain ⟨T37, h37, X37, e37, W37, st37⟩ := putF X33 hx hZ hown (host := "") (Or.inl (ox hw 309 rfl)) Via.refl eq33 f36 f35 (Or.inr ⟨(ox hw 310 rfl), rfl, hnm⟩) (ox hw 295 rfl) (ty := (.object sk14)) (by decide) rfl rfl (g := (mkF m 17 #[vR a1, vR a2, vR a3] [(.ref a3), (.ref a1)])) rfl rfl (hb hby d50_17)
  have f38 : Fld Z h37 a1 sk19 "e1" sk3 (.ref a3) := f36.same W37
  have N39 := Fr.snoc X37 N34 g_a1
  have O40 := O30.wr W37 g_a1
  have K41 := K31.wr W37 (Or.inl (List.mem_of_getElem? (i := 0) rfl))
  have q42 := fun t (kt : Go p e below T37 (mkF m 20 #[vR a1, vR a2, vR a3] []) t) => q32 t (st33 t (st37 t kt))
  have f43 := (f28.other W37 (Or.inr (slot_ne (Or.inr (ox hw 307 rfl)) (Or.inr (ox hw 310 rfl)) (by decide) (t := (.object sk14)) (t' := (.object sk14)) (by decide) (by decide))))
  exact ⟨none, T37, _, _, _, _, X37, by decide, by decide, fun _ => rfl, q42, fun fs hr => X37.returnOut hx hret (hb hby d50_20) hr, by rw [e37]; exact ⟨rfl, N39, K41, f43, f38⟩⟩
theorem ef_34_II (m : MethodId) (x0 : Int32) (x1 : Int32) : entryFrame m #[(.int x0), (.int x1)] 2 = mkF m 0 #[.val (.int x0), .val (.int x1)] [] := by first | (simp [entryFrame, mkF, argsToLocals, Value.category]; done) | rfl
theorem d34_0 : decode jdk_29_method_69_code 0 = .ok (.iload_n 0, 1) := by decide +kernel
theorem d34_1 : decode jdk_29_method_69_code 1 = .ok (.iload_n 1, 1) := by decide +kernel
theorem d34_2 : decode jdk_29_method_69_code 2 = .ok (.if_icmp .gt 7, 3) := by decide +kernel
theorem d34_9 : decode jdk_29_method_69_code 9 = .ok (.iload_n 1, 1) := by decide +kernel
theorem d34_10 : decode jdk_29_method_69_code 10 = .ok (.ireturn, 1) := by decide +kernel
def Q_rm34_1 (Z : State) (cw : Nat → Nat) (z_cs : Int32) (h0 : Heap) (n0 : Nat) (v : Option Value) (h : Heap) (L : List Loc) : Prop := v = some (.int 1) ∧ Fr n0 L ∧ h = h0
theorem rm34_1 (l : Launch) (Z : State) (a0 : Array Value) (hw : ∀ d ∈ tables_1, d.before a0 Z = true) (ws : List Jvm.Cond) {cw : Nat → Nat} {z_cs : Int32} (cx : Cx Z cw z_cs) (h0 : Heap) (n0 : Nat) (O0 : Old Z n0 h0) :
    OwnMet l ym25 (Jvm.Cond.code ym25 jdk_29_method_69_code 2 (some .int) :: ws) (own_R 0 0 0 0) #[(.int 10), (.int 1)] Z h0 (Q_rm34_1 Z  cw z_cs h0 n0) := by
  refine own_body (Jvm.Free.JP.mathPlain rfl (by decide +kernel)) hisR fun p e s m below meth c s₁ hx hby hml hown hnm hret hZ X0 e0 => ?_
  have N0 := Fr.nil n0
  have pre0 : ∀ t, Go p e below s₁ (mkF m 0 #[vI 10, vI 1] []) t → Go p e below s₁ (entryFrame m #[(.int 10), (.int 1)] 2) t := fun t k => castTop (ef_34_II m (10 : Int32) (1 : Int32)) k
  have q21 := fun t (kt : Go p e below s₁ (mkF m 10 #[vI 10, vI 1] [(.int 1)]) t) => pre0 t (by
    show Go _ _ _ _ (mkF m 0 #[vI 10, vI 1] []) _
    refine XS.iloadN X0.here hx rfl (hb hby d34_0) rfl ?_
    show Go _ _ _ _ (mkF m 1 _ [(.int 10)]) _
    refine XS.iloadN X0.here hx rfl (hb hby d34_1) rfl ?_
    show Go _ _ _ _ (mkF m 2 _ [(.int 1), (.int 10)]) _
    refine XS.icmpYes X0.here hx rfl (pc0 := 2) (pc' := 9) rfl (hb hby d34_2) rfl (tlt (by decide : (1 : Int32) < (10 : Int32))).2.2.1 (by decide) (by decide) ?_
    show Go _ _ _ _ (mkF m 9 _ []) _
    refine XS.iloadN X0.here hx rfl (hb hby d34_9) rfl ?_
    exact kt)
  exact ⟨some (.int 1), s₁, _, _, _, _, X0, by decide, by decide, nofun, q21, fun fs hr => retI X0 hx hret (hb hby d34_10) hr, by rw [e0]; exact ⟨rfl, N0, rfl⟩⟩
def Q_rm34_2 (Z : State) (cw : Nat → Nat) (z_cs : Int32) (h0 : Heap) (n0 : Nat) (v : Option Value) (h : Heap) (L : List Loc) : Prop := v = some (.int 2) ∧ Fr n0 L ∧ h = h0
theorem rm34_2 (l : Launch) (Z : State) (a0 : Array Value) (hw : ∀ d ∈ tables_1, d.before a0 Z = true) (ws : List Jvm.Cond) {cw : Nat → Nat} {z_cs : Int32} (cx : Cx Z cw z_cs) (h0 : Heap) (n0 : Nat) (O0 : Old Z n0 h0) :
    OwnMet l ym25 (Jvm.Cond.code ym25 jdk_29_method_69_code 2 (some .int) :: ws) (own_R 0 0 0 0) #[(.int 10), (.int 2)] Z h0 (Q_rm34_2 Z  cw z_cs h0 n0) := by
  refine own_body (Jvm.Free.JP.mathPlain rfl (by decide +kernel)) hisR fun p e s m below meth c s₁ hx hby hml hown hnm hret hZ X0 e0 => ?_
  have N0 := Fr.nil n0
  have pre0 : ∀ t, Go p e below s₁ (mkF m 0 #[vI 10, vI 2] []) t → Go p e below s₁ (entryFrame m #[(.int 10), (.int 2)] 2) t := fun t k => castTop (ef_34_II m (10 : Int32) (2 : Int32)) k
  have q21 := fun t (kt : Go p e below s₁ (mkF m 10 #[vI 10, vI 2] [(.int 2)]) t) => pre0 t (by
    show Go _ _ _ _ (mkF m 0 #[vI 10, vI 2] []) _
    refine XS.iloadN X0.here hx rfl (hb hby d34_0) rfl ?_
    show Go _ _ _ _ (mkF m 1 _ [(.int 10)]) _
    refine XS.iloadN X0.here hx rfl (hb hby d34_1) rfl ?_
    show Go _ _ _ _ (mkF m 2 _ [(.int 2), (.int 10)]) _
    refine XS.icmpYes X0.here hx rfl (pc0 := 2) (pc' := 9) rfl (hb hby d34_2) rfl (tlt (by decide : (2 : Int32) < (10 : Int32))).2.2.1 (by decide) (by decide) ?_
    show Go _ _ _ _ (mkF m 9 _ []) _
    refine XS.iloadN X0.here hx rfl (hb hby d34_9) rfl ?_
    exact kt)
  exact ⟨some (.int 2), s₁, _, _, _, _, X0, by decide, by decide, nofun, q21, fun fs hr => retI X0 hx hret (hb hby d34_10) hr, by rw [e0]; exact ⟨rfl, N0, rfl⟩⟩
def Q_rm34_3 (Z : State) (cw : Nat → Nat) (z_cs : Int32) (h0 : Heap) (n0 : Nat) (v : Option Value) (h : Heap) (L : List Loc) : Prop := v = some (.int 3) ∧ Fr n0 L ∧ h = h0
theorem rm34_3 (l : Launch) (Z : State) (a0 : Array Value) (hw : ∀ d ∈ tables_1, d.before a0 Z = true) (ws : List Jvm.Cond) {cw : Nat → Nat} {z_cs : Int32} (cx : Cx Z cw z_cs) (h0 : Heap) (n0 : Nat) (O0 : Old Z n0 h0) :
    OwnMet l ym25 (Jvm.Cond.code ym25 jdk_29_method_69_code 2 (some .int) :: ws) (own_R 0 0 0 0) #[(.int 10), (.int 3)] Z h0 (Q_rm34_3 Z  cw z_cs h0 n0) := by
  refine own_body (Jvm.Free.JP.mathPlain rfl (by decide +kernel)) hisR fun p e s m below meth c s₁ hx hby hml hown hnm hret hZ X0 e0 => ?_
  have N0 := Fr.nil n0
  have pre0 : ∀ t, Go p e below s₁ (mkF m 0 #[vI 10, vI 3] []) t → Go p e below s₁ (entryFrame m #[(.int 10), (.int 3)] 2) t := fun t k => castTop (ef_34_II m (10 : Int32) (3 : Int32)) k
  have q21 := fun t (kt : Go p e below s₁ (mkF m 10 #[vI 10, vI 3] [(.int 3)]) t) => pre0 t (by
    show Go _ _ _ _ (mkF m 0 #[vI 10, vI 3] []) _
    refine XS.iloadN X0.here hx rfl (hb hby d34_0) rfl ?_
    show Go _ _ _ _ (mkF m 1 _ [(.int 10)]) _
    refine XS.iloadN X0.here hx rfl (hb hby d34_1) rfl ?_
    show Go _ _ _ _ (mkF m 2 _ [(.int 3), (.int 10)]) _
    refine XS.icmpYes X0.here hx rfl (pc0 := 2) (pc' := 9) rfl (hb hby d34_2) rfl (tlt (by decide : (3 : Int32) < (10 : Int32))).2.2.1 (by decide) (by decide) ?_
    show Go _ _ _ _ (mkF m 9 _ []) _
    refine XS.iloadN X0.here hx rfl (hb hby d34_9) rfl ?_
    exact kt)
  exact ⟨some (.int 3), s₁, _, _, _, _, X0, by decide, by decide, nofun, q21, fun fs hr => retI X0 hx hret (hb hby d34_10) hr, by rw [e0]; exact ⟨rfl, N0, rfl⟩⟩
theorem ef_33_RIR (m : MethodId) (x0 : Addr) (x1 : Int32) (x2 : Addr) : entryFrame m #[(.ref x0), (.int x1), (.ref x2)] 4 = mkF m 0 #[.val (.ref x0), .val (.int x1), .val (.ref x2), .unset] [] := by first | (simp [entryFrame, mkF, argsToLocals, Value.category]; done) | rfl
theorem pn_33 : plainName "java/util/Arrays" = true := by first | (simp [plainName, overriddenIn]; done) | decide +kernel
theorem d33_0 : decode jdk_65_method_120_code 0 = .ok (.aload_n 2, 1) := by decide +kernel
theorem d33_1 : decode jdk_65_method_120_code 1 = .ok (.ldc 110, 2) := by decide +kernel
theorem d33_3 : decode jdk_65_method_120_code 3 = .ok (.if_acmp .ne 10, 3) := by decide +kernel
theorem d33_6 : decode jdk_65_method_120_code 6 = .ok (.iload_n 1, 1) := by decide +kernel
theorem d33_7 : decode jdk_65_method_120_code 7 = .ok (.anewarray 2, 3) := by decide +kernel
theorem d33_10 : decode jdk_65_method_120_code 10 = .ok (.goto 14, 3) := by decide +kernel
theorem d33_24 : decode jdk_65_method_120_code 24 = .ok (.astore_n 3, 1) := by decide +kernel
theorem d33_25 : decode jdk_65_method_120_code 25 = .ok (.aload_n 0, 1) := by decide +kernel
theorem d33_26 : decode jdk_65_method_120_code 26 = .ok (.iconst 0, 1) := by decide +kernel
theorem d33_27 : decode jdk_65_method_120_code 27 = .ok (.aload_n 3, 1) := by decide +kernel
theorem d33_28 : decode jdk_65_method_120_code 28 = .ok (.iconst 0, 1) := by decide +kernel
theorem d33_29 : decode jdk_65_method_120_code 29 = .ok (.aload_n 0, 1) := by decide +kernel
theorem d33_30 : decode jdk_65_method_120_code 30 = .ok (.arraylength, 1) := by decide +kernel
theorem d33_31 : decode jdk_65_method_120_code 31 = .ok (.iload_n 1, 1) := by decide +kernel
theorem d33_32 : decode jdk_65_method_120_code 32 = .ok (.invokestatic 304, 3) := by decide +kernel
theorem d33_35 : decode jdk_65_method_120_code 35 = .ok (.invokestatic 150, 3) := by decide +kernel
theorem d33_38 : decode jdk_65_method_120_code 38 = .ok (.aload_n 3, 1) := by decide +kernel
theorem d33_39 : decode jdk_65_method_120_code 39 = .ok (.areturn, 1) := by decide +kernel
def Q_rm33_1 (Z : State) (K : String) (b : Addr) (x1 : Addr) (kb : ClassId) (cw : Nat → Nat) (z_cs : Int32) (h0 : Heap) (n0 : Nat) (v : Option Value) (h : Heap) (L : List Loc) : Prop := ∃ (r : Addr) (kr : ClassId), v = some (.ref r) ∧ Fr n0 L ∧ Keep h0 h [] ∧ h0.size ≤ r ∧ Arv Z h r kr (.object sk14) (1 : Int32) [(.ref x1)] .null ∧ Exa Z h r sk6 ∧ (Ovr Z kr sk14)
theorem rm33_1 (l : Launch) (Z : State) (a0 : Array Value) (hw : ∀ d ∈ tables_1, d.before a0 Z = true) (ws : List Jvm.Cond) {cw : Nat → Nat} {z_cs : Int32} (cx : Cx Z cw z_cs) (K : String) (b : Addr) (x1 : Addr) (kb : ClassId) (h0 : Heap) (n0 : Nat) (O0 : Old Z n0 h0) (G0 : Arv Z h0 b kb (.object sk14) (10 : Int32) [(.ref x1), .null, .null, .null, .null, .null, .null, .null, .null, .null] .null) (G1 : Exa Z h0 b sk6) (G2 : Exa Z h0 x1 K) (hC : (Jvm.Cond.castable K sk14).before a0 Z = true) :
    OwnMet l ym26 (Jvm.Cond.code ym26 jdk_65_method_120_code 4 (some (.array (.object sk14))) :: ws) (own_R 1 1 1 48) #[(.ref b), (.int 1), (.ref (cw 20))] Z h0 (Q_rm33_1 Z K b x1 kb cw z_cs h0 n0) := by
  refine own_body (plainFor_of_name pn_33) hisR fun p e s m below meth c s₁ hx hby hml hown hnm hret hZ X0 e0 => ?_
  have N0 := Fr.nil n0
  have K0 : Keep h0 h0 [] := Keep.refl _ _
  have pre0 : ∀ t, Go p e below s₁ (mkF m 0 #[vR b, vI 1, vR (cw 20), vU] []) t → Go p e below s₁ (entryFrame m #[(.ref b), (.int 1), (.ref (cw 20))] 4) t := fun t k => castTop (ef_33_RIR m b (1 : Int32) (cw 20)) k
  have q21 := fun t (kt : Go p e below s₁ (mkF m 1 #[vR b, vI 1, vR (cw 20), vU] [(.ref (cw 20))]) t) => pre0 t (by
    show Go _ _ _ _ (mkF m 0 #[vR b, vI 1, vR (cw 20), vU] []) _
    refine XS.aloadN X0.here hx rfl (hb hby d33_0) rfl rfl ?_
    exact kt)
  obtain ⟨T22, X22, e22, st22⟩ := own_ldcM X0 hx hZ hown (ox hw 254 rfl) e0 cx.2.2.2.2.2.2.2.2.2.2.2.2.2.2.2.2.2.2.2.2.2.2.2.2.2.2.2.2.2.2.2.2.2.2.2.2.2.2.2.2.2.2 (g := (mkF m 1 #[vR b, vI 1, vR (cw 20), vU] [(.ref (cw 20))])) rfl (hb hby d33_1)
  have q23 := fun t (kt : Go p e below T22 (mkF m 7 #[vR b, vI 1, vR (cw 20), vU] [(.int 1)]) t) => q21 t (st22 t (by
    show Go _ _ _ _ (mkF m 3 #[vR b, vI 1, vR (cw 20), vU] [(.ref (cw 20)), (.ref (cw 20))]) _
    refine Jvm.RoadKit.acmp (g := (mkF m 3 #[vR b, vI 1, vR (cw 20), vU] [(.ref (cw 20)), (.ref (cw 20))])) X22 hx rfl rfl rfl (pc0 := 3) (pc' := 6) (same := true) rfl (hb hby d33_3) rfl (decide_eq_true rfl) (by decide) (by decide) ?_
    show Go _ _ _ _ (mkF m 6 _ []) _
    refine XS.iloadN X22.here hx rfl (hb hby d33_6) rfl ?_
    exact kt))
  obtain ⟨T24, h24, k24, X24, e24, E24, A24, Ex24, O_24, st24⟩ := newRE X22 hx hZ hown (ox hw 255 rfl) (ox hw 211 rfl) e22 (g := (mkF m 7 #[vR b, vI 1, vR (cw 20), vU] [(.int 1)])) rfl (hb hby d33_7) rfl (by decide) (cap := 1) (by decide) (by decide) (by decide) (by decide) (ad := sk6) (by decide +kernel)
  obtain ⟨b24, g24⟩ : ∃ z, z = h0.size := ⟨_, rfl⟩
  rw [← g24] at A24 st24 Ex24
  have gg25 : n0 ≤ b24 := Nat.le_trans (O0.1 ▸ O0.2.1) (Nat.le_of_eq g24.symm)
  have sz26 : h0.size ≤ b24 := Nat.le_trans K0.1 (Nat.le_of_eq g24.symm)
  have O27 := O0.ext E24
  have K28 := K0.ext E24
  have V24 : Arv Z h24 b24 k24 (.object sk14) (1 : Int32) [.null] .null := (Arv.new A24 (by decide)).pad (pad_rep [] .null 1)
  have f29 := (G0.ext E24)
  have q31 := fun t (kt : Go p e below T24 (mkF m 30 #[vR b, vI 1, vR (cw 20), vR b24] [(.ref b), (.int 0), (.ref b24), (.int 0), (.ref b)]) t) => q23 t (st24 t (by
    show Go _ _ _ _ (mkF m 10 #[vR b, vI 1, vR (cw 20), vU] [(.ref b24)]) _
    refine XS.goto X24.here hx rfl (pc0 := 10) (pc' := 24) rfl (hb hby d33_10) (by decide) (by decide) ?_
    show Go _ _ _ _ (mkF m 24 _ [(.ref b24)]) _
    refine XS.astoreN X24.here hx rfl (hb hby d33_24) rfl rfl (l' := #[vR b, vI 1, vR (cw 20), vR b24]) rfl ?_
    show Go _ _ _ _ (mkF m 25 #[vR b, vI 1, vR (cw 20), vR b24] []) _
    refine XS.aloadN X24.here hx rfl (hb hby d33_25) rfl rfl ?_
    show Go _ _ _ _ (mkF m 26 _ [(.ref b)]) _
    refine XS.iconst X24.here hx rfl (hb hby d33_26) ?_
    show Go _ _ _ _ (mkF m 27 _ [(.int 0), (.ref b)]) _
    refine XS.aloadN X24.here hx rfl (hb hby d33_27) rfl rfl ?_
    show Go _ _ _ _ (mkF m 28 _ [(.ref b24), (.int 0), (.ref b)]) _
    refine XS.iconst X24.here hx rfl (hb hby d33_28) ?_
    show Go _ _ _ _ (mkF m 29 _ [(.int 0), (.ref b24), (.int 0), (.ref b)]) _
    refine XS.aloadN X24.here hx rfl (hb hby d33_29) rfl rfl ?_
    exact kt))
  obtain ⟨c30, Ar30, -, S30, N30, -, -⟩ := id f29
  have q32 := fun t (kt : Go p e below T24 (mkF m 32 #[vR b, vI 1, vR (cw 20), vR b24] [(.int 1), (.int 10), (.int 0), (.ref b24), (.int 0), (.ref b)]) t) => q31 t (by
    show Go _ _ _ _ (mkF m 30 #[vR b, vI 1, vR (cw 20), vR b24] [(.ref b), (.int 0), (.ref b24), (.int 0), (.ref b)]) _
    refine X24.arraylength hx (by rw [e24]; exact Ar30.1) (State.isArrayOf_alike hZ.alike Ar30.2.1) (g := (mkF m 30 #[vR b, vI 1, vR (cw 20), vR b24] [(.ref b), (.int 0), (.ref b24), (.int 0), (.ref b)])) rfl rfl (hb hby d33_30) _ ?_
    rw [len_of S30 N30]
    show Go _ _ _ _ (mkF m 31 _ [(.int 10), (.int 0), (.ref b24), (.int 0), (.ref b)]) _
    refine XS.iloadN X24.here hx rfl (hb hby d33_31) rfl ?_
    exact kt)
  obtain ⟨_, _, ⟨T33, L33, k33, n33⟩, -, X33, ⟨_, hQ33, l33, y33, z33⟩, st33⟩ := Jvm.LawKit.callS X24 hx (y := ym25) hown (ow hZ hw 256 rfl) (ow hZ hw 257 rfl) (ow hZ hw 208 rfl) (ow hZ hw 258 rfl) (by decide) (backOf (W := 4) (rm34_1 l Z a0 hw [] cx  h24 n0 O27 ) hZ (ox hw 258 rfl) (ox hw 208 rfl) (by decide) (by decide)) (g := (mkF m 32 #[vR b, vI 1, vR (cw 20), vR b24] [(.int 1), (.int 10), (.int 0), (.ref b24), (.int 0), (.ref b)])) rfl (by rw [hml]; rfl) (argsL := [(.int 10), (.int 1)]) (rest := [(.int 0), (.ref b24), (.int 0), (.ref b)]) (lenOf pd_4 rfl) rfl own_le0 (hb hby d33_32) (fun _ _ => ⟨rfl, e24, (by decide : 1 + 0 ≤ _), (by decide : 1 + 0 ≤ _)⟩)
  dsimp only [Pt.U, Pt.locs, Pt.cells, Pt.slots] at X33 l33 y33 z33 st33 hQ33
  subst l33 y33 z33
  obtain ⟨rfl, Nq33, eq33⟩ := hQ33
  have N34 := Fr.app N0 Nq33
  obtain ⟨c35, Ar35, q35, -⟩ := id V24
  have f36 := (G2.ext E24)
  obtain ⟨T37, h37, L37, X37, e37, N37, K37, V37, st37⟩ := cpA X33 hx hZ hown (ox hw 259 rfl) (ox hw 262 rfl) (ox hw 260 rfl) (ox hw 261 rfl) eq33 f29 V24 (us := [(.ref x1)]) (Or.inr ⟨rfl, rfl, ⟨Sto.ofV Ar35 q35 O_24 (Ins.of_exa f36 hC), trivial⟩⟩) (by decide) (by decide) (by decide) (by decide) (by decide) rfl (by decide) N34 gg25 (g := (mkF m 35 #[vR b, vI 1, vR (cw 20), vR b24] [(.int 1), (.int 0), (.ref b24), (.int 0), (.ref b)])) rfl (by rw [hml]; rfl) rfl (hb hby d33_35) (by decide) (W := 0) own_le0 (by decide)
  have O38 := O27.keep K37 (allS gg25 all0)
  have K39 := K28.trans K37 (allS (Or.inr sz26) all0)
  have Vv37 : Arv Z h37 b24 k24 (.object sk14) (1 : Int32) [(.ref x1)] .null := V37
  have q40 := fun t (kt : Go p e below T37 (mkF m 39 #[vR b, vI 1, vR (cw 20), vR b24] [(.ref b24)]) t) => q32 t (st33 t (st37 t (by
    show Go _ _ _ _ (mkF m 38 #[vR b, vI 1, vR (cw 20), vR b24] []) _
    refine XS.aloadN X37.here hx rfl (hb hby d33_38) rfl rfl ?_
    exact kt)))
  have f41 := (Ex24.keep K37)
  exact ⟨some (.ref b24), T37, _, _, _, _, X37, by decide, by decide, nofun, q40, fun fs hr => retOut X37 hx hret rfl (o4 ⟨rfl, rfl, rfl⟩) (hb hby d33_39) hr, by rw [e37]; exact ⟨b24, k24, rfl, N37, K39, sz26, Vv37, f41, O_24⟩⟩
theorem ef_32_RI (m : MethodId) (x0 : Addr) (x1 : Int32) : entryFrame m #[(.ref x0), (.int x1)] 2 = mkF m 0 #[.val (.ref x0), .val (.int x1)] [] := by first | (simp [entryFrame, mkF, argsToLocals, Value.category]; done) | rfl
theorem pn_32 : plainName "java/util/Arrays" = true := by first | (simp [plainName, overriddenIn]; done) | decide +kernel
theorem d32_0 : decode jdk_65_method_119_code 0 = .ok (.aload_n 0, 1) := by decide +kernel
theorem d32_1 : decode jdk_65_method_119_code 1 = .ok (.iload_n 1, 1) := by decide +kernel
theorem d32_2 : decode jdk_65_method_119_code 2 = .ok (.aload_n 0, 1) := by decide +kernel
theorem d32_3 : decode jdk_65_method_119_code 3 = .ok (.invokevirtual 86, 3) := by decide +kernel
theorem d32_6 : decode jdk_65_method_119_code 6 = .ok (.invokestatic 300, 3) := by decide +kernel
theorem pd_12 : parseMethodDescriptor "([Ljava/lang/Object;ILjava/lang/Class;)[Ljava/lang/Object;" = some ⟨[(.array (.object "java/lang/Object")), .int, (.object "java/lang/Class")], some (.array (.object "java/lang/Object"))⟩ := by decide +kernel
theorem d32_9 : decode jdk_65_method_119_code 9 = .ok (.areturn, 1) := by decide +kernel
def Q_rm32_1 (Z : State) (K : String) (b : Addr) (x1 : Addr) (kb : ClassId) (cw : Nat → Nat) (z_cs : Int32) (h0 : Heap) (n0 : Nat) (v : Option Value) (h : Heap) (L : List Loc) : Prop := ∃ (r : Addr) (kr : ClassId), v = some (.ref r) ∧ Fr n0 L ∧ Keep h0 h [] ∧ h0.size ≤ r ∧ Arv Z h r kr (.object sk14) (1 : Int32) [(.ref x1)] .null ∧ Exa Z h r sk6 ∧ (Ovr Z kr sk14)
theorem rm32_1 (l : Launch) (Z : State) (a0 : Array Value) (hw : ∀ d ∈ tables_1, d.before a0 Z = true) (ws : List Jvm.Cond) {cw : Nat → Nat} {z_cs : Int32} (cx : Cx Z cw z_cs) (K : String) (b : Addr) (x1 : Addr) (kb : ClassId) (h0 : Heap) (n0 : Nat) (O0 : Old Z n0 h0) (G0 : Arv Z h0 b kb (.object sk14) (10 : Int32) [(.ref x1), .null, .null, .null, .null, .null, .null, .null, .null, .null] .null) (G1 : Exa Z h0 b sk6) (G2 : Exa Z h0 x1 K) (hC : (Jvm.Cond.castable K sk14).before a0 Z = true) :
    OwnMet l ym27 (Jvm.Cond.code ym27 jdk_65_method_119_code 2 (some (.array (.object sk14))) :: ws) (own_R 2 1 1 63) #[(.ref b), (.int 1)] Z h0 (Q_rm32_1 Z K b x1 kb cw z_cs h0 n0) := by
  refine own_body (plainFor_of_name pn_32) hisR fun p e s m below meth c s₁ hx hby hml hown hnm hret hZ X0 e0 => ?_
  have N0 := Fr.nil n0
  have K0 : Keep h0 h0 [] := Keep.refl _ _
  have pre0 : ∀ t, Go p e below s₁ (mkF m 0 #[vR b, vI 1] []) t → Go p e below s₁ (entryFrame m #[(.ref b), (.int 1)] 2) t := fun t k => castTop (ef_32_RI m b (1 : Int32)) k
  have q21 := fun t (kt : Go p e below s₁ (mkF m 3 #[vR b, vI 1] [(.ref b), (.int 1), (.ref b)]) t) => pre0 t (by
    show Go _ _ _ _ (mkF m 0 #[vR b, vI 1] []) _
    refine XS.aloadN X0.here hx rfl (hb hby d32_0) rfl rfl ?_
    show Go _ _ _ _ (mkF m 1 _ [(.ref b)]) _
    refine XS.iloadN X0.here hx rfl (hb hby d32_1) rfl ?_
    show Go _ _ _ _ (mkF m 2 _ [(.int 1), (.ref b)]) _
    refine XS.aloadN X0.here hx rfl (hb hby d32_2) rfl rfl ?_
    exact kt)
  obtain ⟨T22, X22, e22, st22⟩ := own_gcls X0 hx hZ hown (ox hw 245 rfl) (ox hw 246 rfl) (ox hw 94 rfl) (ox hw 248 rfl) (ox hw 247 rfl) (ox hw 249 rfl) e0 G1 cx.2.2.2.2.2.2.2.2.2.2.2.2.2.2.2.2.2.2.2.2.2.2.2.2.2.2.2.2.2.2.2.2.2.2.2.2.2.2.2.2.2.2 (g := (mkF m 3 #[vR b, vI 1] [(.ref b), (.int 1), (.ref b)])) rfl (by rw [hml]; rfl) rfl (hb hby d32_3) (by decide) (W := 2) own_le0 (by decide)
  obtain ⟨_, _, ⟨T23, L23, k23, n23⟩, -, X23, ⟨_, hQ23, l23, y23, z23⟩, st23⟩ := Jvm.LawKit.callS X22 hx (y := ym26) hown (ow hZ hw 251 rfl) (ow hZ hw 252 rfl) (ow hZ hw 243 rfl) (ow hZ hw 253 rfl) (by decide) (backOf (W := 0) (rm33_1 l Z a0 hw [] cx K b x1 kb h0 n0 O0 G0 G1 G2 hC) hZ (ox hw 253 rfl) (ox hw 243 rfl) (by decide) (by decide)) (g := (mkF m 6 #[vR b, vI 1] [(.ref (cw 20)), (.int 1), (.ref b)])) rfl (by rw [hml]; rfl) (argsL := [(.ref b), (.int 1), (.ref (cw 20))]) (rest := []) (lenOf pd_12 rfl) rfl own_le0 (hb hby d32_6) (fun _ _ => ⟨rfl, e22, (by decide : 0 + 1 ≤ _), (by decide : 0 + 1 ≤ _)⟩)
  dsimp only [Pt.U, Pt.locs, Pt.cells, Pt.slots] at X23 l23 y23 z23 st23 hQ23
  subst l23 y23 z23
  obtain ⟨r_23, kr_23, rfl, Nq23, Kq23, fr23_0, fq23_0, fq23_1, pq23_0⟩ := hQ23
  have N24 := Fr.app N0 Nq23
  have gg25 : n0 ≤ r_23 := Nat.le_trans (O0.1 ▸ O0.2.1) fr23_0
  have sz26 : h0.size ≤ r_23 := Nat.le_trans K0.1 fr23_0
  have O27 := O0.keep Kq23 all0
  have K28 := K0.trans Kq23 all0
  have q29 := fun t (kt : Go p e below T23 (mkF m 9 #[vR b, vI 1] [(.ref r_23)]) t) => q21 t (st22 t (st23 t kt))
  exact ⟨some (.ref r_23), T23, _, _, _, _, X23, by decide, by decide, nofun, q29, fun fs hr => retOut X23 hx hret rfl (o4 ⟨rfl, rfl, rfl⟩) (hb hby d32_9) hr, ⟨r_23, kr_23, rfl, N24, K28, sz26, fq23_0, fq23_1, pq23_0⟩⟩
theorem ef_31_R (m : MethodId) (x0 : Addr) : entryFrame m #[(.ref x0)] 1 = mkF m 0 #[.val (.ref x0)] [] := by first | (simp [entryFrame, mkF, argsToLocals, Value.category]; done) | rfl
theorem pn_31 : plainName "java/util/ArrayList" = true := by first | (simp [plainName, overriddenIn]; done) | decide +kernel
theorem d31_0 : decode jdk_38_method_16_code 0 = .ok (.aload_n 0, 1) := by decide +kernel
theorem d31_1 : decode jdk_38_method_16_code 1 = .ok (.getfield 9, 3) := by decide +kernel
theorem d31_4 : decode jdk_38_method_16_code 4 = .ok (.aload_n 0, 1) := by decide +kernel
theorem d31_5 : decode jdk_38_method_16_code 5 = .ok (.getfield 48, 3) := by decide +kernel
theorem d31_8 : decode jdk_38_method_16_code 8 = .ok (.invokestatic 66, 3) := by decide +kernel
theorem pd_13 : parseMethodDescriptor "([Ljava/lang/Object;I)[Ljava/lang/Object;" = some ⟨[(.array (.object "java/lang/Object")), .int], some (.array (.object "java/lang/Object"))⟩ := by decide +kernel
theorem d31_11 : decode jdk_38_method_16_code 11 = .ok (.areturn, 1) := by decide +kernel
def Q_rm31_1 (Z : State) (a1 : Addr) (K : String) (b : Addr) (x1 : Addr) (kb : ClassId) (cw : Nat → Nat) (z_cs : Int32) (h0 : Heap) (n0 : Nat) (v : Option Value) (h : Heap) (L : List Loc) : Prop := ∃ (r : Addr) (kr : ClassId), v = some (.ref r) ∧ Fr n0 L ∧ Keep h0 h [] ∧ h0.size ≤ r ∧ Arv Z h r kr (.object sk14) (1 : Int32) [(.ref x1)] .null ∧ Exa Z h r sk6 ∧ (Ovr Z kr sk14)
theorem rm31_1 (l : Launch) (Z : State) (a0 : Array Value) (hw : ∀ d ∈ tables_1, d.before a0 Z = true) (ws : List Jvm.Cond) {cw : Nat → Nat} {z_cs : Int32} (cx : Cx Z cw z_cs) (a1 : Addr) (K : String) (b : Addr) (x1 : Addr) (kb : ClassId) (h0 : Heap) (n0 : Nat) (O0 : Old Z n0 h0) (G0 : Fld Z h0 a1 sk18 sk12 sk6 (.ref b)) (G1 : Fld Z h0 a1 sk18 "size" "I" (.int 1)) (G2 : Arv Z h0 b kb (.object sk14) (10 : Int32) [(.ref x1), .null, .null, .null, .null, .null, .null, .null, .null, .null] .null) (G3 : Exa Z h0 b sk6) (G4 : Exa Z h0 x1 K) (hC : (Jvm.Cond.castable K sk14).before a0 Z = true) :
    OwnMet l ym28 (Jvm.Cond.code ym28 jdk_38_method_16_code 1 (some (.array (.object sk14))) :: ws) (own_R 3 1 1 76) #[(.ref a1)] Z h0 (Q_rm31_1 Z a1 K b x1 kb cw z_cs h0 n0) := by
  refine own_body (plainFor_of_name pn_31) hisR fun p e s m below meth c s₁ hx hby hml hown hnm hret hZ X0 e0 => ?_
  have N0 := Fr.nil n0
  have K0 : Keep h0 h0 [] := Keep.refl _ _
  have pre0 : ∀ t, Go p e below s₁ (mkF m 0 #[vR a1] []) t → Go p e below s₁ (entryFrame m #[(.ref a1)] 1) t := fun t k => castTop (ef_31_R m a1) k
  have q21 := fun t (kt : Go p e below s₁ (mkF m 1 #[vR a1] [(.ref a1)]) t) => pre0 t (by
    show Go _ _ _ _ (mkF m 0 #[vR a1] []) _
    refine XS.aloadN X0.here hx rfl (hb hby d31_0) rfl rfl ?_
    exact kt)
  obtain ⟨T22, X22, e22, st22⟩ := getF X0 hx hZ hown (host := "") (Or.inl (ox hw 73 rfl)) Via.refl e0 G0 (g := (mkF m 1 #[vR a1] [(.ref a1)])) rfl rfl (hb hby d31_1)
  have q23 := fun t (kt : Go p e below T22 (mkF m 5 #[vR a1] [(.ref a1), (.ref b)]) t) => q21 t (st22 t (by
    show Go _ _ _ _ (mkF m 4 #[vR a1] [(.ref b)]) _
    refine XS.aloadN X22.here hx rfl (hb hby d31_4) rfl rfl ?_
    exact kt))
  obtain ⟨T24, X24, e24, st24⟩ := getF X22 hx hZ hown (host := "") (Or.inl (ox hw 105 rfl)) Via.refl e22 G1 (g := (mkF m 5 #[vR a1] [(.ref a1), (.ref b)])) rfl rfl (hb hby d31_5)
  obtain ⟨_, _, ⟨T25, L25, k25, n25⟩, -, X25, ⟨_, hQ25, l25, y25, z25⟩, st25⟩ := Jvm.LawKit.callS X24 hx (y := ym27) hown (ow hZ hw 241 rfl) (ow hZ hw 242 rfl) (ow hZ hw 243 rfl) (ow hZ hw 244 rfl) (by decide) (backOf (W := 0) (rm32_1 l Z a0 hw [] cx K b x1 kb h0 n0 O0 G2 G3 G4 hC) hZ (ox hw 244 rfl) (ox hw 243 rfl) (by decide) (by decide)) (g := (mkF m 8 #[vR a1] [(.int 1), (.ref b)])) rfl (by rw [hml]; rfl) (argsL := [(.ref b), (.int 1)]) (rest := []) (lenOf pd_13 rfl) rfl own_le0 (hb hby d31_8) (fun _ _ => ⟨rfl, e24, (by decide : 0 + 1 ≤ _), (by decide : 0 + 1 ≤ _)⟩)
  dsimp only [Pt.U, Pt.locs, Pt.cells, Pt.slots] at X25 l25 y25 z25 st25 hQ25
  subst l25 y25 z25
  obtain ⟨r_25, kr_25, rfl, Nq25, Kq25, fr25_0, fq25_0, fq25_1, pq25_0⟩ := hQ25
  have N26 := Fr.app N0 Nq25
  have gg27 : n0 ≤ r_25 := Nat.le_trans (O0.1 ▸ O0.2.1) fr25_0
  have sz28 : h0.size ≤ r_25 := Nat.le_trans K0.1 fr25_0
  have O29 := O0.keep Kq25 all0
  have K30 := K0.trans Kq25 all0
  have q31 := fun t (kt : Go p e below T25 (mkF m 11 #[vR a1] [(.ref r_25)]) t) => q23 t (st24 t (st25 t kt))
  exact ⟨some (.ref r_25), T25, _, _, _, _, X25, by decide, by decide, nofun, q31, fun fs hr => retOut X25 hx hret rfl (o4 ⟨rfl, rfl, rfl⟩) (hb hby d31_11) hr, ⟨r_25, kr_25, rfl, N26, K30, sz28, fq25_0, fq25_1, pq25_0⟩⟩
theorem ef_35_R (m : MethodId) (x0 : Addr) : entryFrame m #[(.ref x0)] 2 = mkF m 0 #[.val (.ref x0), .unset] [] := by first | (simp [entryFrame, mkF, argsToLocals, Value.category]; done) | rfl
theorem pn_35 : plainName "java/util/List" = true := by first | (simp [plainName, overriddenIn]; done) | decide +kernel
theorem d35_0 : decode jdk_40_method_47_code 0 = .ok (.aload_n 0, 1) := by decide +kernel
theorem d35_1 : decode jdk_40_method_47_code 1 = .ok (.arraylength, 1) := by decide +kernel
theorem d35_2 : decode jdk_40_method_47_code 2 = .ok (.tableswitch 57 0 2 #[26, 32, 43], 26) := by decide +kernel
theorem d35_34 : decode jdk_40_method_47_code 34 = .ok (.new 96, 3) := by decide +kernel
theorem d35_37 : decode jdk_40_method_47_code 37 = .ok (.dup, 1) := by decide +kernel
theorem d35_38 : decode jdk_40_method_47_code 38 = .ok (.aload_n 0, 1) := by decide +kernel
theorem d35_39 : decode jdk_40_method_47_code 39 = .ok (.iconst 0, 1) := by decide +kernel
theorem d35_40 : decode jdk_40_method_47_code 40 = .ok (.aaload, 1) := by decide +kernel
theorem d35_41 : decode jdk_40_method_47_code 41 = .ok (.invokespecial 98, 3) := by decide +kernel
theorem pd_14 : parseMethodDescriptor "(Ljava/lang/Object;)V" = some ⟨[(.object "java/lang/Object")], none⟩ := by decide +kernel
theorem d35_44 : decode jdk_40_method_47_code 44 = .ok (.areturn, 1) := by decide +kernel
def Q_rm35_1 (Z : State) (K : String) (b : Addr) (x1 : Addr) (kb : ClassId) (cw : Nat → Nat) (z_cs : Int32) (h0 : Heap) (n0 : Nat) (v : Option Value) (h : Heap) (L : List Loc) : Prop := ∃ (r : Addr), v = some (.ref r) ∧ Fr n0 L ∧ Keep h0 h [] ∧ h0.size ≤ r ∧ Exa Z h r sk19 ∧ Fld Z h r sk19 "e0" sk3 (.ref x1) ∧ Fld Z h r sk19 "e1" sk3 (.ref (cw 19))
theorem rm35_1 (l : Launch) (Z : State) (a0 : Array Value) (hw : ∀ d ∈ tables_1, d.before a0 Z = true) (ws : List Jvm.Cond) {cw : Nat → Nat} {z_cs : Int32} (cx : Cx Z cw z_cs) (K : String) (b : Addr) (x1 : Addr) (kb : ClassId) (h0 : Heap) (n0 : Nat) (O0 : Old Z n0 h0) (G0 : Arv Z h0 b kb (.object sk14) (1 : Int32) [(.ref x1)] .null) (G1 : Exa Z h0 x1 K) (hC : (Jvm.Cond.castable K sk14).before a0 Z = true) :
    OwnMet l ym29 (Jvm.Cond.code ym29 jdk_40_method_47_code 2 (some (.object sk23)) :: ws) (own_R 5 1 2 62) #[(.ref b)] Z h0 (Q_rm35_1 Z K b x1 kb cw z_cs h0 n0) := by
  refine own_body (plainFor_of_name pn_35) hisR fun p e s m below meth c s₁ hx hby hml hown hnm hret hZ X0 e0 => ?_
  have N0 := Fr.nil n0
  have K0 : Keep h0 h0 [] := Keep.refl _ _
  have pre0 : ∀ t, Go p e below s₁ (mkF m 0 #[vR b, vU] []) t → Go p e below s₁ (entryFrame m #[(.ref b)] 2) t := fun t k => castTop (ef_35_R m b) k
  have q22 := fun t (kt : Go p e below s₁ (mkF m 1 #[vR b, vU] [(.ref b)]) t) => pre0 t (by
    show Go _ _ _ _ (mkF m 0 #[vR b, vU] []) _
    refine XS.aloadN X0.here hx rfl (hb hby d35_0) rfl rfl ?_
    exact kt)
  obtain ⟨c21, Ar21, -, S21, N21, -, -⟩ := id G0
  have q23 := fun t (kt : Go p e below s₁ (mkF m 34 #[vR b, vU] []) t) => q22 t (by
    show Go _ _ _ _ (mkF m 1 #[vR b, vU] [(.ref b)]) _
    refine X0.arraylength hx (by rw [e0]; exact Ar21.1) (State.isArrayOf_alike hZ.alike Ar21.2.1) (g := (mkF m 1 #[vR b, vU] [(.ref b)])) rfl rfl (hb hby d35_1) _ ?_
    rw [len_of S21 N21]
    show Go _ _ _ _ (mkF m 2 _ [(.int 1)]) _
    refine XS.tswIn X0.here hx rfl (pc0 := 2) (pc' := 34) rfl (hb hby d35_2) rfl (by decide) (o := 32) rfl (by decide) (by decide) ?_
    exact kt)
  obtain ⟨T24, h24, X24, e24, E24, A24, D24, U24, st24⟩ := newO X0 hx hZ hown (ox hw 294 rfl) (ox hw 295 rfl) (ox hw 296 rfl) e0 (g := (mkF m 34 #[vR b, vU] [])) rfl (hb hby d35_34) (by decide) (by decide)
  obtain ⟨b24, g24⟩ : ∃ z, z = h0.size := ⟨_, rfl⟩
  rw [← g24] at A24 D24 st24
  have gg25 : n0 ≤ b24 := Nat.le_trans (O0.1 ▸ O0.2.1) (Nat.le_of_eq g24.symm)
  have sz26 : h0.size ≤ b24 := Nat.le_trans K0.1 (Nat.le_of_eq g24.symm)
  have O27 := O0.ext E24
  have K28 := K0.ext E24
  have F24_e0 : Fld Z h24 b24 sk19 "e0" sk3 .null := D24 (Or.inr (ox hw 307 rfl)) (ty := (.object sk14)) (by decide)
  have F24_e1 : Fld Z h24 b24 sk19 "e1" sk3 .null := D24 (Or.inr (ox hw 310 rfl)) (ty := (.object sk14)) (by decide)
  have f29 := (G0.ext E24)
  have q31 := fun t (kt : Go p e below T24 (mkF m 40 #[vR b, vU] [(.int 0), (.ref b), (.ref b24), (.ref b24)]) t) => q23 t (st24 t (by
    show Go _ _ _ _ (mkF m 37 #[vR b, vU] [(.ref b24)]) _
    refine XS.dup X24.here hx rfl (hb hby d35_37) rfl rfl ?_
    show Go _ _ _ _ (mkF m 38 _ [(.ref b24), (.ref b24)]) _
    refine XS.aloadN X24.here hx rfl (hb hby d35_38) rfl rfl ?_
    show Go _ _ _ _ (mkF m 39 _ [(.ref b), (.ref b24), (.ref b24)]) _
    refine XS.iconst X24.here hx rfl (hb hby d35_39) ?_
    exact kt))
  obtain ⟨c30, Ar30, -, S30, N30, H30, -⟩ := id f29
  have q32 := fun t (kt : Go p e below T24 (mkF m 41 #[vR b, vU] [(.ref x1), (.ref b24), (.ref b24)]) t) => q31 t (by
    show Go _ _ _ _ (mkF m 40 #[vR b, vU] [(.int 0), (.ref b), (.ref b24), (.ref b24)]) _
    refine X24.aaload hx (j := (0 : Int32)) (v := (.ref x1)) (by rw [e24]; exact Ar30.1) (State.isArrayOf_alike hZ.alike Ar30.2.1) rfl Ar30.2.2 (inb_of S30 ⟨by decide, by decide⟩) (Has.at H30 (inb_of S30 ⟨by decide, by decide⟩) rfl) (g := (mkF m 40 #[vR b, vU] [(.int 0), (.ref b), (.ref b24), (.ref b24)])) rfl rfl (hb hby d35_40) _ ?_
    exact kt)
  obtain ⟨_, _, ⟨T33, L33, k33, n33⟩, -, X33, ⟨_, hQ33, l33, y33, z33⟩, st33⟩ := X24.specialBack hx (y := ym23) rfl hown (ow hZ hw 297 rfl) (ow hZ hw 298 rfl) (ow hZ hw 300 rfl) (by decide) (backOf (W := 1) (rm41 l Z a0 hw [] cx b24 x1 h24 n0 O27 A24 F24_e0 F24_e1 gg25) hZ (ox hw 300 rfl) (ox hw 296 rfl) (by decide) (by decide)) (g := (mkF m 41 #[vR b, vU] [(.ref x1), (.ref b24), (.ref b24)])) rfl (by rw [hml]; rfl) (Steps.refl _) (a := b24) (argsL := [(.ref x1)]) (rest := [(.ref b24)]) (lenOf pd_14 rfl) rfl own_le0 (hb hby d35_41) (fun _ _ => ⟨rfl, e24, (by decide : 1 + 0 ≤ _), (by decide : 2 + 0 ≤ _)⟩)
  dsimp only [Pt.U, Pt.locs, Pt.cells, Pt.slots] at X33 l33 y33 z33 st33 hQ33
  subst l33 y33 z33
  obtain ⟨rfl, Nq33, Kq33, fq33_0, fq33_1⟩ := hQ33
  have N34 := Fr.app N0 Nq33
  have O35 := O27.keep Kq33 (allS gg25 all0)
  have K36 := K28.trans Kq33 (allS (Or.inr sz26) all0)
  have q37 := fun t (kt : Go p e below T33 (mkF m 44 #[vR b, vU] [(.ref b24)]) t) => q32 t (st33.trans kt)
  have f38 := (A24.keep Kq33)
  exact ⟨some (.ref b24), T33, _, _, _, _, X33, by decide, by decide, nofun, q37, fun fs hr => retOut X33 hx hret rfl (o4 ⟨rfl, rfl, rfl⟩) (hb hby d35_44) hr, ⟨b24, rfl, N34, K36, sz26, f38, fq33_0, fq33_1⟩⟩
theorem ef_12_R (m : MethodId) (x0 : Addr) : entryFrame m #[(.ref x0)] 2 = mkF m 0 #[.val (.ref x0), .unset] [] := by first | (simp [entryFrame, mkF, argsToLocals, Value.category]; done) | rfl
theorem pn_12 : plainName "java/util/ImmutableCollections" = true := by first | (simp [plainName, overriddenIn]; done) | decide +kernel
theorem d12_0 : decode jdk_56_method_3_code 0 = .ok (.aload_n 0, 1) := by decide +kernel
theorem d12_1 : decode jdk_56_method_3_code 1 = .ok (.instanceof 10, 3) := by decide +kernel
theorem d12_4 : decode jdk_56_method_3_code 4 = .ok (.ifCond .ne 22, 3) := by decide +kernel
theorem d12_7 : decode jdk_56_method_3_code 7 = .ok (.aload_n 0, 1) := by decide +kernel
theorem d12_8 : decode jdk_56_method_3_code 8 = .ok (.instanceof 12, 3) := by decide +kernel
theorem d12_11 : decode jdk_56_method_3_code 11 = .ok (.ifCond .eq 20, 3) := by decide +kernel
theorem d12_31 : decode jdk_56_method_3_code 31 = .ok (.aload_n 0, 1) := by decide +kernel
theorem d12_32 : decode jdk_56_method_3_code 32 = .ok (.invokeinterface 20 1, 5) := by decide +kernel
theorem pd_15 : parseMethodDescriptor "()Z" = some ⟨[], some .boolean⟩ := by decide +kernel
theorem d12_37 : decode jdk_56_method_3_code 37 = .ok (.ifCond .eq 7, 3) := by decide +kernel
theorem d12_44 : decode jdk_56_method_3_code 44 = .ok (.aload_n 0, 1) := by decide +kernel
theorem d12_45 : decode jdk_56_method_3_code 45 = .ok (.invokeinterface 30 1, 5) := by decide +kernel
theorem d12_50 : decode jdk_56_method_3_code 50 = .ok (.invokestatic 34, 3) := by decide +kernel
theorem pd_16 : parseMethodDescriptor "([Ljava/lang/Object;)Ljava/util/List;" = some ⟨[(.array (.object "java/lang/Object"))], some (.object "java/util/List")⟩ := by decide +kernel
theorem d12_53 : decode jdk_56_method_3_code 53 = .ok (.areturn, 1) := by decide +kernel
def Q_rm12_1 (Z : State) (a1 : Addr) (K : String) (b : Addr) (x1 : Addr) (kb : ClassId) (cw : Nat → Nat) (z_cs : Int32) (h0 : Heap) (n0 : Nat) (v : Option Value) (h : Heap) (L : List Loc) : Prop := ∃ (r : Addr), v = some (.ref r) ∧ Fr n0 L ∧ Keep h0 h [] ∧ h0.size ≤ r ∧ Exa Z h r sk19 ∧ Fld Z h r sk19 "e0" sk3 (.ref x1) ∧ Fld Z h r sk19 "e1" sk3 (.ref (cw 19))
theorem rm12_1 (l : Launch) (Z : State) (a0 : Array Value) (hw : ∀ d ∈ tables_1, d.before a0 Z = true) (ws : List Jvm.Cond) {cw : Nat → Nat} {z_cs : Int32} (cx : Cx Z cw z_cs) (a1 : Addr) (K : String) (b : Addr) (x1 : Addr) (kb : ClassId) (h0 : Heap) (n0 : Nat) (O0 : Old Z n0 h0) (G0 : Exa Z h0 a1 sk18) (G1 : Fld Z h0 a1 sk18 sk12 sk6 (.ref b)) (G2 : Fld Z h0 a1 sk18 "size" "I" (.int 1)) (G3 : Arv Z h0 b kb (.object sk14) (10 : Int32) [(.ref x1), .null, .null, .null, .null, .null, .null, .null, .null, .null] .null) (G4 : Exa Z h0 b sk6) (G5 : Exa Z h0 x1 K) (hC : (Jvm.Cond.castable K sk14).before a0 Z = true) :
    OwnMet l ym30 (Jvm.Cond.code ym30 jdk_56_method_3_code 2 (some (.object sk23)) :: ws) (own_R 6 2 3 88) #[(.ref a1)] Z h0 (Q_rm12_1 Z a1 K b x1 kb cw z_cs h0 n0) := by
  refine own_body (plainFor_of_name pn_12) hisR fun p e s m below meth c s₁ hx hby hml hown hnm hret hZ X0 e0 => ?_
  have N0 := Fr.nil n0
  have K0 : Keep h0 h0 [] := Keep.refl _ _
  have pre0 : ∀ t, Go p e below s₁ (mkF m 0 #[vR a1, vU] []) t → Go p e below s₁ (entryFrame m #[(.ref a1)] 2) t := fun t k => castTop (ef_12_R m a1) k
  have q21 := fun t (kt : Go p e below s₁ (mkF m 1 #[vR a1, vU] [(.ref a1)]) t) => pre0 t (by
    show Go _ _ _ _ (mkF m 0 #[vR a1, vU] []) _
    refine XS.aloadN X0.here hx rfl (hb hby d12_0) rfl rfl ?_
    exact kt)
  obtain ⟨T22, X22, e22, st22⟩ := instNo X0 hx hZ hown (ox hw 90 rfl) e0 G0 (own_NSno (ox hw 91 rfl) (ox hw 295 rfl) (NS.step (ox hw 91 rfl) (NS.step (ox hw 92 rfl) (NS.step (ox hw 93 rfl) (own_NSroot (ox hw 94 rfl) (ox hw 295 rfl) (by decide)) (by decide)) (by decide)) (by decide)) (by decide)) (g := (mkF m 1 #[vR a1, vU] [(.ref a1)])) rfl rfl (hb hby d12_1)
  have q23 := fun t (kt : Go p e below T22 (mkF m 8 #[vR a1, vU] [(.ref a1)]) t) => q21 t (st22 t (by
    show Go _ _ _ _ (mkF m 4 #[vR a1, vU] [(.int 0)]) _
    refine XS.ifNo X22.here hx rfl (hb hby d12_4) rfl ((if0 _ _).trans (teq (rfl : (0 : Int32) = (0 : Int32))).2) ?_
    show Go _ _ _ _ (mkF m 7 _ []) _
    refine XS.aloadN X22.here hx rfl (hb hby d12_7) rfl rfl ?_
    exact kt))
  obtain ⟨T24, X24, e24, st24⟩ := instNo X22 hx hZ hown (ox hw 95 rfl) e22 G0 (own_NSno (ox hw 91 rfl) (ox hw 274 rfl) (NS.step (ox hw 91 rfl) (NS.step (ox hw 92 rfl) (NS.step (ox hw 93 rfl) (own_NSroot (ox hw 94 rfl) (ox hw 274 rfl) (by decide)) (by decide)) (by decide)) (by decide)) (by decide)) (g := (mkF m 8 #[vR a1, vU] [(.ref a1)])) rfl rfl (hb hby d12_8)
  have q25 := fun t (kt : Go p e below T24 (mkF m 32 #[vR a1, vU] [(.ref a1)]) t) => q23 t (st24 t (by
    show Go _ _ _ _ (mkF m 11 #[vR a1, vU] [(.int 0)]) _
    refine XS.ifYes X24.here hx rfl (pc0 := 11) (pc' := 31) rfl (hb hby d12_11) rfl ((if0 _ _).trans (teq (rfl : (0 : Int32) = (0 : Int32))).1) (by decide) (by decide) ?_
    show Go _ _ _ _ (mkF m 31 _ []) _
    refine XS.aloadN X24.here hx rfl (hb hby d12_31) rfl rfl ?_
    exact kt))
  obtain ⟨cq27, kq27, q27a, q27b, q27c⟩ := isOf hZ e24 G0
  obtain ⟨_, _, ⟨T26, L26, k26, n26⟩, -, X26, ⟨_, hQ26, l26, y26, z26⟩, st26⟩ := X24.interfaceBack hx (xi := ym31) (y := ym17) hown (ow hZ hw 96 rfl) (ow hZ hw 97 rfl) (ow hZ hw 98 rfl) (ow hZ hw 99 rfl) (ow hZ hw 100 rfl) (ow hZ hw 101 rfl) (ow hZ hw 102 rfl) (ow hZ hw 103 rfl) (by decide) (backOf (W := 0) (rm13_1 l Z a0 hw [] cx a1 h0 n0 O0 G2) hZ (ox hw 104 rfl) (ox hw 53 rfl) (by decide) (by decide)) q27a q27b q27c (g := (mkF m 32 #[vR a1, vU] [(.ref a1)])) rfl (by rw [hml]; rfl) (Steps.refl _) (argsL := []) (rest := []) (lenOf pd_15 rfl) rfl own_le0 (hb hby d12_32) (fun _ _ => ⟨rfl, e24, (by decide : 0 + 0 ≤ _), (by decide : 0 + 0 ≤ _)⟩)
  dsimp only [Pt.U, Pt.locs, Pt.cells, Pt.slots] at X26 l26 y26 z26 st26 hQ26
  subst l26 y26 z26
  obtain ⟨rfl, Nq26, eq26⟩ := hQ26
  have N28 := Fr.app N0 Nq26
  have q29 := fun t (kt : Go p e below T26 (mkF m 45 #[vR a1, vU] [(.ref a1)]) t) => q25 t (st26.trans (by
    show Go _ _ _ _ (mkF m 37 #[vR a1, vU] [(.int 0)]) _
    refine XS.ifYes X26.here hx rfl (pc0 := 37) (pc' := 44) rfl (hb hby d12_37) rfl ((if0 _ _).trans (teq (rfl : (0 : Int32) = (0 : Int32))).1) (by decide) (by decide) ?_
    show Go _ _ _ _ (mkF m 44 _ []) _
    refine XS.aloadN X26.here hx rfl (hb hby d12_44) rfl rfl ?_
    exact kt))
  obtain ⟨cq31, kq31, q31a, q31b, q31c⟩ := isOf hZ eq26 G0
  obtain ⟨_, _, ⟨T30, L30, k30, n30⟩, -, X30, ⟨_, hQ30, l30, y30, z30⟩, st30⟩ := X26.interfaceBack hx (xi := ym32) (y := ym28) hown (ow hZ hw 233 rfl) (ow hZ hw 234 rfl) (ow hZ hw 235 rfl) (ow hZ hw 236 rfl) (ow hZ hw 237 rfl) (ow hZ hw 238 rfl) (ow hZ hw 239 rfl) (ow hZ hw 103 rfl) (by decide) (backOf (W := 0) (rm31_1 l Z a0 hw [] cx a1 K b x1 kb h0 n0 O0 G1 G2 G3 G4 G5 hC) hZ (ox hw 240 rfl) (ox hw 53 rfl) (by decide) (by decide)) q31a q31b q31c (g := (mkF m 45 #[vR a1, vU] [(.ref a1)])) rfl (by rw [hml]; rfl) (Steps.refl _) (argsL := []) (rest := []) (lenOf pd_6 rfl) rfl own_le0 (hb hby d12_45) (fun _ _ => ⟨rfl, eq26, (by decide : 0 + 1 ≤ _), (by decide : 0 + 1 ≤ _)⟩)
  dsimp only [Pt.U, Pt.locs, Pt.cells, Pt.slots] at X30 l30 y30 z30 st30 hQ30
  subst l30 y30 z30
  obtain ⟨r_30, kr_30, rfl, Nq30, Kq30, fr30_0, fq30_0, fq30_1, pq30_0⟩ := hQ30
  have N32 := Fr.app N28 Nq30
  have gg33 : n0 ≤ r_30 := Nat.le_trans (O0.1 ▸ O0.2.1) fr30_0
  have sz34 : h0.size ≤ r_30 := Nat.le_trans K0.1 fr30_0
  have O35 := O0.keep Kq30 all0
  have K36 := K0.trans Kq30 all0
  have f37 := (G5.keep Kq30)
  obtain ⟨_, _, ⟨T38, L38, k38, n38⟩, -, X38, ⟨_, hQ38, l38, y38, z38⟩, st38⟩ := Jvm.LawKit.callS X30 hx (y := ym29) hown (ow hZ hw 263 rfl) (ow hZ hw 264 rfl) (ow hZ hw 84 rfl) (ow hZ hw 265 rfl) (by decide) (backOf (W := 0) (rm35_1 l Z a0 hw [] cx K r_30 x1 kr_30 T30.heap n0 O35 fq30_0 f37 hC) hZ (ox hw 265 rfl) (ox hw 84 rfl) (by decide) (by decide)) (g := (mkF m 50 #[vR a1, vU] [(.ref r_30)])) rfl (by rw [hml]; rfl) (argsL := [(.ref r_30)]) (rest := []) (lenOf pd_16 rfl) rfl own_le0 (hb hby d12_50) (fun _ _ => ⟨rfl, rfl, (by decide : 1 + 1 ≤ _), (by decide : 1 + 2 ≤ _)⟩)
  dsimp only [Pt.U, Pt.locs, Pt.cells, Pt.slots] at X38 l38 y38 z38 st38 hQ38
  subst l38 y38 z38
  obtain ⟨r_38, rfl, Nq38, Kq38, fr38_0, fq38_0, fq38_1, fq38_2⟩ := hQ38
  have N39 := Fr.app N32 Nq38
  have gg40 : n0 ≤ r_38 := Nat.le_trans (O35.1 ▸ O35.2.1) fr38_0
  have sz41 : h0.size ≤ r_38 := Nat.le_trans K36.1 fr38_0
  have O42 := O35.keep Kq38 all0
  have K43 := K36.trans Kq38 all0
  have q44 := fun t (kt : Go p e below T38 (mkF m 53 #[vR a1, vU] [(.ref r_38)]) t) => q29 t (st30.trans (st38 t kt))
  exact ⟨some (.ref r_38), T38, _, _, _, _, X38, by decide, by decide, nofun, q44, fun fs hr => retOut X38 hx hret rfl (o4 ⟨rfl, rfl, rfl⟩) (hb hby d12_53) hr, ⟨r_38, rfl, N39, K43, sz41, fq38_0, fq38_1, fq38_2⟩⟩
theorem ef_11_R (m : MethodId) (x0 : Addr) : entryFrame m #[(.ref x0)] 1 = mkF m 0 #[.val (.ref x0)] [] := by first | (simp [entryFrame, mkF, argsToLocals, Value.category]; done) | rfl
theorem pn_11 : plainName "java/util/List" = true := by first | (simp [plainName, overriddenIn]; done) | decide +kernel
theorem d11_0 : decode jdk_40_method_48_code 0 = .ok (.aload_n 0, 1) := by decide +kernel
theorem d11_1 : decode jdk_40_method_48_code 1 = .ok (.invokestatic 112, 3) := by decide +kernel
theorem pd_17 : parseMethodDescriptor "(Ljava/util/Collection;)Ljava/util/List;" = some ⟨[(.object "java/util/Collection")], some (.object "java/util/List")⟩ := by decide +kernel
theorem d11_4 : decode jdk_40_method_48_code 4 = .ok (.areturn, 1) := by decide +kernel
def Q_rm11_1 (Z : State) (a1 : Addr) (K : String) (b : Addr) (x1 : Addr) (kb : ClassId) (cw : Nat → Nat) (z_cs : Int32) (h0 : Heap) (n0 : Nat) (v : Option Value) (h : Heap) (L : List Loc) : Prop := ∃ (r : Addr), v = some (.ref r) ∧ Fr n0 L ∧ Keep h0 h [] ∧ h0.size ≤ r ∧ Exa Z h r sk19 ∧ Fld Z h r sk19 "e0" sk3 (.ref x1) ∧ Fld Z h r sk19 "e1" sk3 (.ref (cw 19))
theorem rm11_1 (l : Launch) (Z : State) (a0 : Array Value) (hw : ∀ d ∈ tables_1, d.before a0 Z = true) (ws : List Jvm.Cond) {cw : Nat → Nat} {z_cs : Int32} (cx : Cx Z cw z_cs) (a1 : Addr) (K : String) (b : Addr) (x1 : Addr) (kb : ClassId) (h0 : Heap) (n0 : Nat) (O0 : Old Z n0 h0) (G0 : Exa Z h0 a1 sk18) (G1 : Fld Z h0 a1 sk18 sk12 sk6 (.ref b)) (G2 : Fld Z h0 a1 sk18 "size" "I" (.int 1)) (G3 : Arv Z h0 b kb (.object sk14) (10 : Int32) [(.ref x1), .null, .null, .null, .null, .null, .null, .null, .null, .null] .null) (G4 : Exa Z h0 b sk6) (G5 : Exa Z h0 x1 K) (hC : (Jvm.Cond.castable K sk14).before a0 Z = true) :
    OwnMet l ym33 (Jvm.Cond.code ym33 jdk_40_method_48_code 1 (some (.object sk23)) :: ws) (own_R 7 2 3 101) #[(.ref a1)] Z h0 (Q_rm11_1 Z a1 K b x1 kb cw z_cs h0 n0) := by
  refine own_body (plainFor_of_name pn_11) hisR fun p e s m below meth c s₁ hx hby hml hown hnm hret hZ X0 e0 => ?_
  have N0 := Fr.nil n0
  have K0 : Keep h0 h0 [] := Keep.refl _ _
  have pre0 : ∀ t, Go p e below s₁ (mkF m 0 #[vR a1] []) t → Go p e below s₁ (entryFrame m #[(.ref a1)] 1) t := fun t k => castTop (ef_11_R m a1) k
  have q21 := fun t (kt : Go p e below s₁ (mkF m 1 #[vR a1] [(.ref a1)]) t) => pre0 t (by
    show Go _ _ _ _ (mkF m 0 #[vR a1] []) _
    refine XS.aloadN X0.here hx rfl (hb hby d11_0) rfl rfl ?_
    exact kt)
  obtain ⟨_, _, ⟨T22, L22, k22, n22⟩, -, X22, ⟨_, hQ22, l22, y22, z22⟩, st22⟩ := Jvm.LawKit.callS X0 hx (y := ym30) hown (ow hZ hw 86 rfl) (ow hZ hw 87 rfl) (ow hZ hw 88 rfl) (ow hZ hw 89 rfl) (by decide) (backOf (W := 0) (rm12_1 l Z a0 hw [] cx a1 K b x1 kb h0 n0 O0 G0 G1 G2 G3 G4 G5 hC) hZ (ox hw 89 rfl) (ox hw 88 rfl) (by decide) (by decide)) (g := (mkF m 1 #[vR a1] [(.ref a1)])) rfl (by rw [hml]; rfl) (argsL := [(.ref a1)]) (rest := []) (lenOf pd_17 rfl) rfl own_le0 (hb hby d11_1) (fun _ _ => ⟨rfl, e0, (by decide : 0 + 2 ≤ _), (by decide : 0 + 3 ≤ _)⟩)
  dsimp only [Pt.U, Pt.locs, Pt.cells, Pt.slots] at X22 l22 y22 z22 st22 hQ22
  subst l22 y22 z22
  obtain ⟨r_22, rfl, Nq22, Kq22, fr22_0, fq22_0, fq22_1, fq22_2⟩ := hQ22
  have N23 := Fr.app N0 Nq22
  have gg24 : n0 ≤ r_22 := Nat.le_trans (O0.1 ▸ O0.2.1) fr22_0
  have sz25 : h0.size ≤ r_22 := Nat.le_trans K0.1 fr22_0
  have O26 := O0.keep Kq22 all0
  have K27 := K0.trans Kq22 all0
  have q28 := fun t (kt : Go p e below T22 (mkF m 4 #[vR a1] [(.ref r_22)]) t) => q21 t (st22 t kt)
  exact ⟨some (.ref r_22), T22, _, _, _, _, X22, by decide, by decide, nofun, q28, fun fs hr => retOut X22 hx hret rfl (o4 ⟨rfl, rfl, rfl⟩) (hb hby d11_4) hr, ⟨r_22, rfl, N23, K27, sz25, fq22_0, fq22_1, fq22_2⟩⟩
def Q_rm33_2 (Z : State) (b : Addr) (x1 : Addr) (x2 : Addr) (kb : ClassId) (cw : Nat → Nat) (z_cs : Int32) (h0 : Heap) (n0 : Nat) (v : Option Value) (h : Heap) (L : List Loc) : Prop := ∃ (r : Addr) (kr : ClassId), v = some (.ref r) ∧ Fr n0 L ∧ Keep h0 h [] ∧ h0.size ≤ r ∧ Arv Z h r kr (.object sk14) (2 : Int32) [(.ref x1), (.ref x2)] .null ∧ Exa Z h r sk6 ∧ (Ovr Z kr sk14)
theorem rm33_2 (l : Launch) (Z : State) (a0 : Array Value) (hw : ∀ d ∈ tables_1, d.before a0 Z = true) (ws : List Jvm.Cond) {cw : Nat → Nat} {z_cs : Int32} (cx : Cx Z cw z_cs) (b : Addr) (x1 : Addr) (x2 : Addr) (kb : ClassId) (h0 : Heap) (n0 : Nat) (O0 : Old Z n0 h0) (G0 : Arv Z h0 b kb (.object sk14) (10 : Int32) [(.ref x1), (.ref x2), .null, .null, .null, .null, .null, .null, .null, .null] .null) (G1 : Exa Z h0 b sk6) (G2 : Exa Z h0 x1 sk9) (G3 : Exa Z h0 x2 sk9) :
    OwnMet l ym26 (Jvm.Cond.code ym26 jdk_65_method_120_code 4 (some (.array (.object sk14))) :: ws) (own_R 1 1 2 48) #[(.ref b), (.int 2), (.ref (cw 20))] Z h0 (Q_rm33_2 Z b x1 x2 kb cw z_cs h0 n0) := by
  refine own_body (plainFor_of_name pn_33) hisR fun p e s m below meth c s₁ hx hby hml hown hnm hret hZ X0 e0 => ?_
  have N0 := Fr.nil n0
  have K0 : Keep h0 h0 [] := Keep.refl _ _
  have pre0 : ∀ t, Go p e below s₁ (mkF m 0 #[vR b, vI 2, vR (cw 20), vU] []) t → Go p e below s₁ (entryFrame m #[(.ref b), (.int 2), (.ref (cw 20))] 4) t := fun t k => castTop (ef_33_RIR m b (2 : Int32) (cw 20)) k
  have q21 := fun t (kt : Go p e below s₁ (mkF m 1 #[vR b, vI 2, vR (cw 20), vU] [(.ref (cw 20))]) t) => pre0 t (by
    show Go _ _ _ _ (mkF m 0 #[vR b, vI 2, vR (cw 20), vU] []) _
    refine XS.aloadN X0.here hx rfl (hb hby d33_0) rfl rfl ?_
    exact kt)
  obtain ⟨T22, X22, e22, st22⟩ := own_ldcM X0 hx hZ hown (ox hw 254 rfl) e0 cx.2.2.2.2.2.2.2.2.2.2.2.2.2.2.2.2.2.2.2.2.2.2.2.2.2.2.2.2.2.2.2.2.2.2.2.2.2.2.2.2.2.2 (g := (mkF m 1 #[vR b, vI 2, vR (cw 20), vU] [(.ref (cw 20))])) rfl (hb hby d33_1)
  have q23 := fun t (kt : Go p e below T22 (mkF m 7 #[vR b, vI 2, vR (cw 20), vU] [(.int 2)]) t) => q21 t (st22 t (by
    show Go _ _ _ _ (mkF m 3 #[vR b, vI 2, vR (cw 20), vU] [(.ref (cw 20)), (.ref (cw 20))]) _
    refine Jvm.RoadKit.acmp (g := (mkF m 3 #[vR b, vI 2, vR (cw 20), vU] [(.ref (cw 20)), (.ref (cw 20))])) X22 hx rfl rfl rfl (pc0 := 3) (pc' := 6) (same := true) rfl (hb hby d33_3) rfl (decide_eq_true rfl) (by decide) (by decide) ?_
    show Go _ _ _ _ (mkF m 6 _ []) _
    refine XS.iloadN X22.here hx rfl (hb hby d33_6) rfl ?_
    exact kt))
  obtain ⟨T24, h24, k24, X24, e24, E24, A24, Ex24, O_24, st24⟩ := newRE X22 hx hZ hown (ox hw 255 rfl) (ox hw 211 rfl) e22 (g := (mkF m 7 #[vR b, vI 2, vR (cw 20), vU] [(.int 2)])) rfl (hb hby d33_7) rfl (by decide) (cap := 2) (by decide) (by decide) (by decide) (by decide) (ad := sk6) (by decide +kernel)
  obtain ⟨b24, g24⟩ : ∃ z, z = h0.size := ⟨_, rfl⟩
  rw [← g24] at A24 st24 Ex24
  have gg25 : n0 ≤ b24 := Nat.le_trans (O0.1 ▸ O0.2.1) (Nat.le_of_eq g24.symm)
  have sz26 : h0.size ≤ b24 := Nat.le_trans K0.1 (Nat.le_of_eq g24.symm)
  have O27 := O0.ext E24
  have K28 := K0.ext E24
  have V24 : Arv Z h24 b24 k24 (.object sk14) (2 : Int32) [.null, .null] .null := (Arv.new A24 (by decide)).pad (pad_rep [] .null 2)
  have f29 := (G0.ext E24)
  have q31 := fun t (kt : Go p e below T24 (mkF m 30 #[vR b, vI 2, vR (cw 20), vR b24] [(.ref b), (.int 0), (.ref b24), (.int 0), (.ref b)]) t) => q23 t (st24 t (by
    show Go _ _ _ _ (mkF m 10 #[vR b, vI 2, vR (cw 20), vU] [(.ref b24)]) _
    refine XS.goto X24.here hx rfl (pc0 := 10) (pc' := 24) rfl (hb hby d33_10) (by decide) (by decide) ?_
    show Go _ _ _ _ (mkF m 24 _ [(.ref b24)]) _
    refine XS.astoreN X24.here hx rfl (hb hby d33_24) rfl rfl (l' := #[vR b, vI 2, vR (cw 20), vR b24]) rfl ?_
    show Go _ _ _ _ (mkF m 25 #[vR b, vI 2, vR (cw 20), vR b24] []) _
    refine XS.aloadN X24.here hx rfl (hb hby d33_25) rfl rfl ?_
    show Go _ _ _ _ (mkF m 26 _ [(.ref b)]) _
    refine XS.iconst X24.here hx rfl (hb hby d33_26) ?_
    show Go _ _ _ _ (mkF m 27 _ [(.int 0), (.ref b)]) _
    refine XS.aloadN X24.here hx rfl (hb hby d33_27) rfl rfl ?_
    show Go _ _ _ _ (mkF m 28 _ [(.ref b24), (.int 0), (.ref b)]) _
    refine XS.iconst X24.here hx rfl (hb hby d33_28) ?_
    show Go _ _ _ _ (mkF m 29 _ [(.int 0), (.ref b24), (.int 0), (.ref b)]) _
    refine XS.aloadN X24.here hx rfl (hb hby d33_29) rfl rfl ?_
    exact kt))
  obtain ⟨c30, Ar30, -, S30, N30, -, -⟩ := id f29
  have q32 := fun t (kt : Go p e below T24 (mkF m 32 #[vR b, vI 2, vR (cw 20), vR b24] [(.int 2), (.int 10), (.int 0), (.ref b24), (.int 0), (.ref b)]) t) => q31 t (by
    show Go _ _ _ _ (mkF m 30 #[vR b, vI 2, vR (cw 20), vR b24] [(.ref b), (.int 0), (.ref b24), (.int 0), (.ref b)]) _
    refine X24.arraylength hx (by rw [e24]; exact Ar30.1) (State.isArrayOf_alike hZ.alike Ar30.2.1) (g := (mkF m 30 #[vR b, vI 2, vR (cw 20), vR b24] [(.ref b), (.int 0), (.ref b24), (.int 0), (.ref b)])) rfl rfl (hb hby d33_30) _ ?_
    rw [len_of S30 N30]
    show Go _ _ _ _ (mkF m 31 _ [(.int 10), (.int 0), (.ref b24), (.int 0), (.ref b)]) _
    refine XS.iloadN X24.here hx rfl (hb hby d33_31) rfl ?_
    exact kt)
  obtain ⟨_, _, ⟨T33, L33, k33, n33⟩, -, X33, ⟨_, hQ33, l33, y33, z33⟩, st33⟩ := Jvm.LawKit.callS X24 hx (y := ym25) hown (ow hZ hw 256 rfl) (ow hZ hw 257 rfl) (ow hZ hw 208 rfl) (ow hZ hw 258 rfl) (by decide) (backOf (W := 4) (rm34_2 l Z a0 hw [] cx  h24 n0 O27 ) hZ (ox hw 258 rfl) (ox hw 208 rfl) (by decide) (by decide)) (g := (mkF m 32 #[vR b, vI 2, vR (cw 20), vR b24] [(.int 2), (.int 10), (.int 0), (.ref b24), (.int 0), (.ref b)])) rfl (by rw [hml]; rfl) (argsL := [(.int 10), (.int 2)]) (rest := [(.int 0), (.ref b24), (.int 0), (.ref b)]) (lenOf pd_4 rfl) rfl own_le0 (hb hby d33_32) (fun _ _ => ⟨rfl, e24, (by decide : 1 + 0 ≤ _), (by decide : 2 + 0 ≤ _)⟩)
  dsimp only [Pt.U, Pt.locs, Pt.cells, Pt.slots] at X33 l33 y33 z33 st33 hQ33
  subst l33 y33 z33
  obtain ⟨rfl, Nq33, eq33⟩ := hQ33
  have N34 := Fr.app N0 Nq33
  obtain ⟨c35, Ar35, q35, -⟩ := id V24
  have f36 := (G3.ext E24)
  have f37 := (G2.ext E24)
  obtain ⟨T38, h38, L38, X38, e38, N38, K38, V38, st38⟩ := cpA X33 hx hZ hown (ox hw 259 rfl) (ox hw 262 rfl) (ox hw 260 rfl) (ox hw 261 rfl) eq33 f29 V24 (us := [(.ref x1), (.ref x2)]) (Or.inr ⟨rfl, rfl, ⟨Sto.ofV Ar35 q35 O_24 (Ins.of_exa f37 (ox hw 212 rfl)), ⟨Sto.ofV Ar35 q35 O_24 (Ins.of_exa f36 (ox hw 212 rfl)), trivial⟩⟩⟩) (by decide) (by decide) (by decide) (by decide) (by decide) rfl (by decide) N34 gg25 (g := (mkF m 35 #[vR b, vI 2, vR (cw 20), vR b24] [(.int 2), (.int 0), (.ref b24), (.int 0), (.ref b)])) rfl (by rw [hml]; rfl) rfl (hb hby d33_35) (by decide) (W := 0) own_le0 (by decide)
  have O39 := O27.keep K38 (allS gg25 all0)
  have K40 := K28.trans K38 (allS (Or.inr sz26) all0)
  have Vv38 : Arv Z h38 b24 k24 (.object sk14) (2 : Int32) [(.ref x1), (.ref x2)] .null := V38
  have q41 := fun t (kt : Go p e below T38 (mkF m 39 #[vR b, vI 2, vR (cw 20), vR b24] [(.ref b24)]) t) => q32 t (st33 t (st38 t (by
    show Go _ _ _ _ (mkF m 38 #[vR b, vI 2, vR (cw 20), vR b24] []) _
    refine XS.aloadN X38.here hx rfl (hb hby d33_38) rfl rfl ?_
    exact kt)))
  have f42 := (Ex24.keep K38)
  exact ⟨some (.ref b24), T38, _, _, _, _, X38, by decide, by decide, nofun, q41, fun fs hr => retOut X38 hx hret rfl (o4 ⟨rfl, rfl, rfl⟩) (hb hby d33_39) hr, by rw [e38]; exact ⟨b24, k24, rfl, N38, K40, sz26, Vv38, f42, O_24⟩⟩
def Q_rm32_2 (Z : State) (b : Addr) (x1 : Addr) (x2 : Addr) (kb : ClassId) (cw : Nat → Nat) (z_cs : Int32) (h0 : Heap) (n0 : Nat) (v : Option Value) (h : Heap) (L : List Loc) : Prop := ∃ (r : Addr) (kr : ClassId), v = some (.ref r) ∧ Fr n0 L ∧ Keep h0 h [] ∧ h0.size ≤ r ∧ Arv Z h r kr (.object sk14) (2 : Int32) [(.ref x1), (.ref x2)] .null ∧ Exa Z h r sk6 ∧ (Ovr Z kr sk14)
theorem rm32_2 (l : Launch) (Z : State) (a0 : Array Value) (hw : ∀ d ∈ tables_1, d.before a0 Z = true) (ws : List Jvm.Cond) {cw : Nat → Nat} {z_cs : Int32} (cx : Cx Z cw z_cs) (b : Addr) (x1 : Addr) (x2 : Addr) (kb : ClassId) (h0 : Heap) (n0 : Nat) (O0 : Old Z n0 h0) (G0 : Arv Z h0 b kb (.object sk14) (10 : Int32) [(.ref x1), (.ref x2), .null, .null, .null, .null, .null, .null, .null, .null] .null) (G1 : Exa Z h0 b sk6) (G2 : Exa Z h0 x1 sk9) (G3 : Exa Z h0 x2 sk9) :
    OwnMet l ym27 (Jvm.Cond.code ym27 jdk_65_method_119_code 2 (some (.array (.object sk14))) :: ws) (own_R 2 1 2 63) #[(.ref b), (.int 2)] Z h0 (Q_rm32_2 Z b x1 x2 kb cw z_cs h0 n0) := by
  refine own_body (plainFor_of_name pn_32) hisR fun p e s m below meth c s₁ hx hby hml hown hnm hret hZ X0 e0 => ?_
  have N0 := Fr.nil n0
  have K0 : Keep h0 h0 [] := Keep.refl _ _
  have pre0 : ∀ t, Go p e below s₁ (mkF m 0 #[vR b, vI 2] []) t → Go p e below s₁ (entryFrame m #[(.ref b), (.int 2)] 2) t := fun t k => castTop (ef_32_RI m b (2 : Int32)) k
  have q21 := fun t (kt : Go p e below s₁ (mkF m 3 #[vR b, vI 2] [(.ref b), (.int 2), (.ref b)]) t) => pre0 t (by
    show Go _ _ _ _ (mkF m 0 #[vR b, vI 2] []) _
    refine XS.aloadN X0.here hx rfl (hb hby d32_0) rfl rfl ?_
    show Go _ _ _ _ (mkF m 1 _ [(.ref b)]) _
    refine XS.iloadN X0.here hx rfl (hb hby d32_1) rfl ?_
    show Go _ _ _ _ (mkF m 2 _ [(.int 2), (.ref b)]) _
    refine XS.aloadN X0.here hx rfl (hb hby d32_2) rfl rfl ?_
    exact kt)
  obtain ⟨T22, X22, e22, st22⟩ := own_gcls X0 hx hZ hown (ox hw 245 rfl) (ox hw 246 rfl) (ox hw 94 rfl) (ox hw 248 rfl) (ox hw 247 rfl) (ox hw 249 rfl) e0 G1 cx.2.2.2.2.2.2.2.2.2.2.2.2.2.2.2.2.2.2.2.2.2.2.2.2.2.2.2.2.2.2.2.2.2.2.2.2.2.2.2.2.2.2 (g := (mkF m 3 #[vR b, vI 2] [(.ref b), (.int 2), (.ref b)])) rfl (by rw [hml]; rfl) rfl (hb hby d32_3) (by decide) (W := 2) own_le0 (by decide)
  obtain ⟨_, _, ⟨T23, L23, k23, n23⟩, -, X23, ⟨_, hQ23, l23, y23, z23⟩, st23⟩ := Jvm.LawKit.callS X22 hx (y := ym26) hown (ow hZ hw 251 rfl) (ow hZ hw 252 rfl) (ow hZ hw 243 rfl) (ow hZ hw 253 rfl) (by decide) (backOf (W := 0) (rm33_2 l Z a0 hw [] cx b x1 x2 kb h0 n0 O0 G0 G1 G2 G3) hZ (ox hw 253 rfl) (ox hw 243 rfl) (by decide) (by decide)) (g := (mkF m 6 #[vR b, vI 2] [(.ref (cw 20)), (.int 2), (.ref b)])) rfl (by rw [hml]; rfl) (argsL := [(.ref b), (.int 2), (.ref (cw 20))]) (rest := []) (lenOf pd_12 rfl) rfl own_le0 (hb hby d32_6) (fun _ _ => ⟨rfl, e22, (by decide : 0 + 1 ≤ _), (by decide : 0 + 2 ≤ _)⟩)
  dsimp only [Pt.U, Pt.locs, Pt.cells, Pt.slots] at X23 l23 y23 z23 st23 hQ23
  subst l23 y23 z23
  obtain ⟨r_23, kr_23, rfl, Nq23, Kq23, fr23_0, fq23_0, fq23_1, pq23_0⟩ := hQ23
  have N24 := Fr.app N0 Nq23
  have gg25 : n0 ≤ r_23 := Nat.le_trans (O0.1 ▸ O0.2.1) fr23_0
  have sz26 : h0.size ≤ r_23 := Nat.le_trans K0.1 fr23_0
  have O27 := O0.keep Kq23 all0
  have K28 := K0.trans Kq23 all0
  have q29 := fun t (kt : Go p e below T23 (mkF m 9 #[vR b, vI 2] [(.ref r_23)]) t) => q21 t (st22 t (st23 t kt))
  exact ⟨some (.ref r_23), T23, _, _, _, _, X23, by decide, by decide, nofun, q29, fun fs hr => retOut X23 hx hret rfl (o4 ⟨rfl, rfl, rfl⟩) (hb hby d32_9) hr, ⟨r_23, kr_23, rfl, N24, K28, sz26, fq23_0, fq23_1, pq23_0⟩⟩
def Q_rm31_2 (Z : State) (a1 : Addr) (b : Addr) (x1 : Addr) (x2 : Addr) (kb : ClassId) (cw : Nat → Nat) (z_cs : Int32) (h0 : Heap) (n0 : Nat) (v : Option Value) (h : Heap) (L : List Loc) : Prop := ∃ (r : Addr) (kr : ClassId), v = some (.ref r) ∧ Fr n0 L ∧ Keep h0 h [] ∧ h0.size ≤ r ∧ Arv Z h r kr (.object sk14) (2 : Int32) [(.ref x1), (.ref x2)] .null ∧ Exa Z h r sk6 ∧ (Ovr Z kr sk14)
theorem rm31_2 (l : Launch) (Z : State) (a0 : Array Value) (hw : ∀ d ∈ tables_1, d.before a0 Z = true) (ws : List Jvm.Cond) {cw : Nat → Nat} {z_cs : Int32} (cx : Cx Z cw z_cs) (a1 : Addr) (b : Addr) (x1 : Addr) (x2 : Addr) (kb : ClassId) (h0 : Heap) (n0 : Nat) (O0 : Old Z n0 h0) (G0 : Fld Z h0 a1 sk18 sk12 sk6 (.ref b)) (G1 : Fld Z h0 a1 sk18 "size" "I" (.int 2)) (G2 : Arv Z h0 b kb (.object sk14) (10 : Int32) [(.ref x1), (.ref x2), .null, .null, .null, .null, .null, .null, .null, .null] .null) (G3 : Exa Z h0 b sk6) (G4 : Exa Z h0 x1 sk9) (G5 : Exa Z h0 x2 sk9) :
    OwnMet l ym28 (Jvm.Cond.code ym28 jdk_38_method_16_code 1 (some (.array (.object sk14))) :: ws) (own_R 3 1 2 76) #[(.ref a1)] Z h0 (Q_rm31_2 Z a1 b x1 x2 kb cw z_cs h0 n0) := by
  refine own_body (plainFor_of_name pn_31) hisR fun p e s m below meth c s₁ hx hby hml hown hnm hret hZ X0 e0 => ?_
  have N0 := Fr.nil n0
  have K0 : Keep h0 h0 [] := Keep.refl _ _
  have pre0 : ∀ t, Go p e below s₁ (mkF m 0 #[vR a1] []) t → Go p e below s₁ (entryFrame m #[(.ref a1)] 1) t := fun t k => castTop (ef_31_R m a1) k
  have q21 := fun t (kt : Go p e below s₁ (mkF m 1 #[vR a1] [(.ref a1)]) t) => pre0 t (by
    show Go _ _ _ _ (mkF m 0 #[vR a1] []) _
    refine XS.aloadN X0.here hx rfl (hb hby d31_0) rfl rfl ?_
    exact kt)
  obtain ⟨T22, X22, e22, st22⟩ := getF X0 hx hZ hown (host := "") (Or.inl (ox hw 73 rfl)) Via.refl e0 G0 (g := (mkF m 1 #[vR a1] [(.ref a1)])) rfl rfl (hb hby d31_1)
  have q23 := fun t (kt : Go p e below T22 (mkF m 5 #[vR a1] [(.ref a1), (.ref b)]) t) => q21 t (st22 t (by
    show Go _ _ _ _ (mkF m 4 #[vR a1] [(.ref b)]) _
    refine XS.aloadN X22.here hx rfl (hb hby d31_4) rfl rfl ?_
    exact kt))
  obtain ⟨T24, X24, e24, st24⟩ := getF X22 hx hZ hown (host := "") (Or.inl (ox hw 105 rfl)) Via.refl e22 G1 (g := (mkF m 5 #[vR a1] [(.ref a1), (.ref b)])) rfl rfl (hb hby d31_5)
  obtain ⟨_, _, ⟨T25, L25, k25, n25⟩, -, X25, ⟨_, hQ25, l25, y25, z25⟩, st25⟩ := Jvm.LawKit.callS X24 hx (y := ym27) hown (ow hZ hw 241 rfl) (ow hZ hw 242 rfl) (ow hZ hw 243 rfl) (ow hZ hw 244 rfl) (by decide) (backOf (W := 0) (rm32_2 l Z a0 hw [] cx b x1 x2 kb h0 n0 O0 G2 G3 G4 G5) hZ (ox hw 244 rfl) (ox hw 243 rfl) (by decide) (by decide)) (g := (mkF m 8 #[vR a1] [(.int 2), (.ref b)])) rfl (by rw [hml]; rfl) (argsL := [(.ref b), (.int 2)]) (rest := []) (lenOf pd_13 rfl) rfl own_le0 (hb hby d31_8) (fun _ _ => ⟨rfl, e24, (by decide : 0 + 1 ≤ _), (by decide : 0 + 2 ≤ _)⟩)
  dsimp only [Pt.U, Pt.locs, Pt.cells, Pt.slots] at X25 l25 y25 z25 st25 hQ25
  subst l25 y25 z25
  obtain ⟨r_25, kr_25, rfl, Nq25, Kq25, fr25_0, fq25_0, fq25_1, pq25_0⟩ := hQ25
  have N26 := Fr.app N0 Nq25
  have gg27 : n0 ≤ r_25 := Nat.le_trans (O0.1 ▸ O0.2.1) fr25_0
  have sz28 : h0.size ≤ r_25 := Nat.le_trans K0.1 fr25_0
  have O29 := O0.keep Kq25 all0
  have K30 := K0.trans Kq25 all0
  have q31 := fun t (kt : Go p e below T25 (mkF m 11 #[vR a1] [(.ref r_25)]) t) => q23 t (st24 t (st25 t kt))
  exact ⟨some (.ref r_25), T25, _, _, _, _, X25, by decide, by decide, nofun, q31, fun fs hr => retOut X25 hx hret rfl (o4 ⟨rfl, rfl, rfl⟩) (hb hby d31_11) hr, ⟨r_25, kr_25, rfl, N26, K30, sz28, fq25_0, fq25_1, pq25_0⟩⟩
theorem d35_45 : decode jdk_40_method_47_code 45 = .ok (.new 96, 3) := by decide +kernel
theorem d35_48 : decode jdk_40_method_47_code 48 = .ok (.dup, 1) := by decide +kernel
theorem d35_49 : decode jdk_40_method_47_code 49 = .ok (.aload_n 0, 1) := by decide +kernel
theorem d35_50 : decode jdk_40_method_47_code 50 = .ok (.iconst 0, 1) := by decide +kernel
theorem d35_51 : decode jdk_40_method_47_code 51 = .ok (.aaload, 1) := by decide +kernel
theorem d35_52 : decode jdk_40_method_47_code 52 = .ok (.aload_n 0, 1) := by decide +kernel
theorem d35_53 : decode jdk_40_method_47_code 53 = .ok (.iconst 1, 1) := by decide +kernel
theorem d35_54 : decode jdk_40_method_47_code 54 = .ok (.aaload, 1) := by decide +kernel
theorem d35_55 : decode jdk_40_method_47_code 55 = .ok (.invokespecial 100, 3) := by decide +kernel
theorem pd_18 : parseMethodDescriptor "(Ljava/lang/Object;Ljava/lang/Object;)V" = some ⟨[(.object "java/lang/Object"), (.object "java/lang/Object")], none⟩ := by decide +kernel
theorem d35_58 : decode jdk_40_method_47_code 58 = .ok (.areturn, 1) := by decide +kernel
def Q_rm35_2 (Z : State) (b : Addr) (x1 : Addr) (x2 : Addr) (kb : ClassId) (cw : Nat → Nat) (z_cs : Int32) (h0 : Heap) (n0 : Nat) (v : Option Value) (h : Heap) (L : List Loc) : Prop := ∃ (r : Addr), v = some (.ref r) ∧ Fr n0 L ∧ Keep h0 h [] ∧ h0.size ≤ r ∧ Exa Z h r sk19 ∧ Fld Z h r sk19 "e0" sk3 (.ref x1) ∧ Fld Z h r sk19 "e1" sk3 (.ref x2)
theorem rm35_2 (l : Launch) (Z : State) (a0 : Array Value) (hw : ∀ d ∈ tables_1, d.before a0 Z = true) (ws : List Jvm.Cond) {cw : Nat → Nat} {z_cs : Int32} (cx : Cx Z cw z_cs) (b : Addr) (x1 : Addr) (x2 : Addr) (kb : ClassId) (h0 : Heap) (n0 : Nat) (O0 : Old Z n0 h0) (G0 : Arv Z h0 b kb (.object sk14) (2 : Int32) [(.ref x1), (.ref x2)] .null) (G1 : Exa Z h0 x1 sk9) (G2 : Exa Z h0 x2 sk9) :
    OwnMet l ym29 (Jvm.Cond.code ym29 jdk_40_method_47_code 2 (some (.object sk23)) :: ws) (own_R 5 1 2 63) #[(.ref b)] Z h0 (Q_rm35_2 Z b x1 x2 kb cw z_cs h0 n0) := by
  refine own_body (plainFor_of_name pn_35) hisR fun p e s m below meth c s₁ hx hby hml hown hnm hret hZ X0 e0 => ?_
  have N0 := Fr.nil n0
  have K0 : Keep h0 h0 [] := Keep.refl _ _
  have pre0 : ∀ t, Go p e below s₁ (mkF m 0 #[vR b, vU] []) t → Go p e below s₁ (entryFrame m #[(.ref b)] 2) t := fun t k => castTop (ef_35_R m b) k
  have q22 := fun t (kt : Go p e below s₁ (mkF m 1 #[vR b, vU] [(.ref b)]) t) => pre0 t (by
    show Go _ _ _ _ (mkF m 0 #[vR b, vU] []) _
    refine XS.aloadN X0.here hx rfl (hb hby d35_0) rfl rfl ?_
    exact kt)
  obtain ⟨c21, Ar21, -, S21, N21, -, -⟩ := id G0
  have q23 := fun t (kt : Go p e below s₁ (mkF m 45 #[vR b, vU] []) t) => q22 t (by
    show Go _ _ _ _ (mkF m 1 #[vR b, vU] [(.ref b)]) _
    refine X0.arraylength hx (by rw [e0]; exact Ar21.1) (State.isArrayOf_alike hZ.alike Ar21.2.1) (g := (mkF m 1 #[vR b, vU] [(.ref b)])) rfl rfl (hb hby d35_1) _ ?_
    rw [len_of S21 N21]
    show Go _ _ _ _ (mkF m 2 _ [(.int 2)]) _
    refine XS.tswIn X0.here hx rfl (pc0 := 2) (pc' := 45) rfl (hb hby d35_2) rfl (by decide) (o := 43) rfl (by decide) (by decide) ?_
    exact kt)
  obtain ⟨T24, h24, X24, e24, E24, A24, D24, U24, st24⟩ := newO X0 hx hZ hown (ox hw 294 rfl) (ox hw 295 rfl) (ox hw 296 rfl) e0 (g := (mkF m 45 #[vR b, vU] [])) rfl (hb hby d35_45) (by decide) (by decide)
  obtain ⟨b24, g24⟩ : ∃ z, z = h0.size := ⟨_, rfl⟩
  rw [← g24] at A24 D24 st24
  have gg25 : n0 ≤ b24 := Nat.le_trans (O0.1 ▸ O0.2.1) (Nat.le_of_eq g24.symm)
  have sz26 : h0.size ≤ b24 := Nat.le_trans K0.1 (Nat.le_of_eq g24.symm)
  have O27 := O0.ext E24
  have K28 := K0.ext E24
  have F24_e0 : Fld Z h24 b24 sk19 "e0" sk3 .null := D24 (Or.inr (ox hw 307 rfl)) (ty := (.object sk14)) (by decide)
  have F24_e1 : Fld Z h24 b24 sk19 "e1" sk3 .null := D24 (Or.inr (ox hw 310 rfl)) (ty := (.object sk14)) (by decide)
  have f29 := (G0.ext E24)
  have q31 := fun t (kt : Go p e below T24 (mkF m 51 #[vR b, vU] [(.int 0), (.ref b), (.ref b24), (.ref b24)]) t) => q23 t (st24 t (by
    show Go _ _ _ _ (mkF m 48 #[vR b, vU] [(.ref b24)]) _
    refine XS.dup X24.here hx rfl (hb hby d35_48) rfl rfl ?_
    show Go _ _ _ _ (mkF m 49 _ [(.ref b24), (.ref b24)]) _
    refine XS.aloadN X24.here hx rfl (hb hby d35_49) rfl rfl ?_
    show Go _ _ _ _ (mkF m 50 _ [(.ref b), (.ref b24), (.ref b24)]) _
    refine XS.iconst X24.here hx rfl (hb hby d35_50) ?_
    exact kt))
  obtain ⟨c30, Ar30, -, S30, N30, H30, -⟩ := id f29
  have q33 := fun t (kt : Go p e below T24 (mkF m 54 #[vR b, vU] [(.int 1), (.ref b), (.ref x1), (.ref b24), (.ref b24)]) t) => q31 t (by
    show Go _ _ _ _ (mkF m 51 #[vR b, vU] [(.int 0), (.ref b), (.ref b24), (.ref b24)]) _
    refine X24.aaload hx (j := (0 : Int32)) (v := (.ref x1)) (by rw [e24]; exact Ar30.1) (State.isArrayOf_alike hZ.alike Ar30.2.1) rfl Ar30.2.2 (inb_of S30 ⟨by decide, by decide⟩) (Has.at H30 (inb_of S30 ⟨by decide, by decide⟩) rfl) (g := (mkF m 51 #[vR b, vU] [(.int 0), (.ref b), (.ref b24), (.ref b24)])) rfl rfl (hb hby d35_51) _ ?_
    show Go _ _ _ _ (mkF m 52 _ [(.ref x1), (.ref b24), (.ref b24)]) _
    refine XS.aloadN X24.here hx rfl (hb hby d35_52) rfl rfl ?_
    show Go _ _ _ _ (mkF m 53 _ [(.ref b), (.ref x1), (.ref b24), (.ref b24)]) _
    refine XS.iconst X24.here hx rfl (hb hby d35_53) ?_
    exact kt)
  obtain ⟨c32, Ar32, -, S32, N32, H32, -⟩ := id f29
  have q34 := fun t (kt : Go p e below T24 (mkF m 55 #[vR b, vU] [(.ref x2), (.ref x1), (.ref b24), (.ref b24)]) t) => q33 t (by
    show Go _ _ _ _ (mkF m 54 #[vR b, vU] [(.int 1), (.ref b), (.ref x1), (.ref b24), (.ref b24)]) _
    refine X24.aaload hx (j := (1 : Int32)) (v := (.ref x2)) (by rw [e24]; exact Ar32.1) (State.isArrayOf_alike hZ.alike Ar32.2.1) rfl Ar32.2.2 (inb_of S32 ⟨by decide, by decide⟩) (Has.at H32 (inb_of S32 ⟨by decide, by decide⟩) rfl) (g := (mkF m 54 #[vR b, vU] [(.int 1), (.ref b), (.ref x1), (.ref b24), (.ref b24)])) rfl rfl (hb hby d35_54) _ ?_
    exact kt)
  obtain ⟨_, _, ⟨T35, L35, k35, n35⟩, -, X35, ⟨_, hQ35, l35, y35, z35⟩, st35⟩ := X24.specialBack hx (y := ym24) rfl hown (ow hZ hw 368 rfl) (ow hZ hw 369 rfl) (ow hZ hw 370 rfl) (by decide) (backOf (W := 1) (rm50 l Z a0 hw [] cx b24 x1 x2 h24 n0 O27 A24 F24_e0 F24_e1 gg25) hZ (ox hw 370 rfl) (ox hw 296 rfl) (by decide) (by decide)) (g := (mkF m 55 #[vR b, vU] [(.ref x2), (.ref x1), (.ref b24), (.ref b24)])) rfl (by rw [hml]; rfl) (Steps.refl _) (a := b24) (argsL := [(.ref x1), (.ref x2)]) (rest := [(.ref b24)]) (lenOf pd_18 rfl) rfl own_le0 (hb hby d35_55) (fun _ _ => ⟨rfl, e24, (by decide : 1 + 0 ≤ _), (by decide : 2 + 0 ≤ _)⟩)
  dsimp only [Pt.U, Pt.locs, Pt.cells, Pt.slots] at X35 l35 y35 z35 st35 hQ35
  subst l35 y35 z35
  obtain ⟨rfl, Nq35, Kq35, fq35_0, fq35_1⟩ := hQ35
  have N36 := Fr.app N0 Nq35
  have O37 := O27.keep Kq35 (allS gg25 all0)
  have K38 := K28.trans Kq35 (allS (Or.inr sz26) all0)
  have q39 := fun t (kt : Go p e below T35 (mkF m 58 #[vR b, vU] [(.ref b24)]) t) => q34 t (st35.trans kt)
  have f40 := (A24.keep Kq35)
  exact ⟨some (.ref b24), T35, _, _, _, _, X35, by decide, by decide, nofun, q39, fun fs hr => retOut X35 hx hret rfl (o4 ⟨rfl, rfl, rfl⟩) (hb hby d35_58) hr, ⟨b24, rfl, N36, K38, sz26, f40, fq35_0, fq35_1⟩⟩
def Q_rm12_2 (Z : State) (a1 : Addr) (b : Addr) (x1 : Addr) (x2 : Addr) (kb : ClassId) (cw : Nat → Nat) (z_cs : Int32) (h0 : Heap) (n0 : Nat) (v : Option Value) (h : Heap) (L : List Loc) : Prop := ∃ (r : Addr), v = some (.ref r) ∧ Fr n0 L ∧ Keep h0 h [] ∧ h0.size ≤ r ∧ Exa Z h r sk19 ∧ Fld Z h r sk19 "e0" sk3 (.ref x1) ∧ Fld Z h r sk19 "e1" sk3 (.ref x2)
theorem rm12_2 (l : Launch) (Z : State) (a0 : Array Value) (hw : ∀ d ∈ tables_1, d.before a0 Z = true) (ws : List Jvm.Cond) {cw : Nat → Nat} {z_cs : Int32} (cx : Cx Z cw z_cs) (a1 : Addr) (b : Addr) (x1 : Addr) (x2 : Addr) (kb : ClassId) (h0 : Heap) (n0 : Nat) (O0 : Old Z n0 h0) (G0 : Exa Z h0 a1 sk18) (G1 : Fld Z h0 a1 sk18 sk12 sk6 (.ref b)) (G2 : Fld Z h0 a1 sk18 "size" "I" (.int 2)) (G3 : Arv Z h0 b kb (.object sk14) (10 : Int32) [(.ref x1), (.ref x2), .null, .null, .null, .null, .null, .null, .null, .null] .null) (G4 : Exa Z h0 b sk6) (G5 : Exa Z h0 x1 sk9) (G6 : Exa Z h0 x2 sk9) :
    OwnMet l ym30 (Jvm.Cond.code ym30 jdk_56_method_3_code 2 (some (.object sk23)) :: ws) (own_R 6 2 4 88) #[(.ref a1)] Z h0 (Q_rm12_2 Z a1 b x1 x2 kb cw z_cs h0 n0) := by
  refine own_body (plainFor_of_name pn_12) hisR fun p e s m below meth c s₁ hx hby hml hown hnm hret hZ X0 e0 => ?_
  have N0 := Fr.nil n0
  have K0 : Keep h0 h0 [] := Keep.refl _ _
  have pre0 : ∀ t, Go p e below s₁ (mkF m 0 #[vR a1, vU] []) t → Go p e below s₁ (entryFrame m #[(.ref a1)] 2) t := fun t k => castTop (ef_12_R m a1) k
  have q21 := fun t (kt : Go p e below s₁ (mkF m 1 #[vR a1, vU] [(.ref a1)]) t) => pre0 t (by
    show Go _ _ _ _ (mkF m 0 #[vR a1, vU] []) _
    refine XS.aloadN X0.here hx rfl (hb hby d12_0) rfl rfl ?_
    exact kt)
  obtain ⟨T22, X22, e22, st22⟩ := instNo X0 hx hZ hown (ox hw 90 rfl) e0 G0 (own_NSno (ox hw 91 rfl) (ox hw 295 rfl) (NS.step (ox hw 91 rfl) (NS.step (ox hw 92 rfl) (NS.step (ox hw 93 rfl) (own_NSroot (ox hw 94 rfl) (ox hw 295 rfl) (by decide)) (by decide)) (by decide)) (by decide)) (by decide)) (g := (mkF m 1 #[vR a1, vU] [(.ref a1)])) rfl rfl (hb hby d12_1)
  have q23 := fun t (kt : Go p e below T22 (mkF m 8 #[vR a1, vU] [(.ref a1)]) t) => q21 t (st22 t (by
    show Go _ _ _ _ (mkF m 4 #[vR a1, vU] [(.int 0)]) _
    refine XS.ifNo X22.here hx rfl (hb hby d12_4) rfl ((if0 _ _).trans (teq (rfl : (0 : Int32) = (0 : Int32))).2) ?_
    show Go _ _ _ _ (mkF m 7 _ []) _
    refine XS.aloadN X22.here hx rfl (hb hby d12_7) rfl rfl ?_
    exact kt))
  obtain ⟨T24, X24, e24, st24⟩ := instNo X22 hx hZ hown (ox hw 95 rfl) e22 G0 (own_NSno (ox hw 91 rfl) (ox hw 274 rfl) (NS.step (ox hw 91 rfl) (NS.step (ox hw 92 rfl) (NS.step (ox hw 93 rfl) (own_NSroot (ox hw 94 rfl) (ox hw 274 rfl) (by decide)) (by decide)) (by decide)) (by decide)) (by decide)) (g := (mkF m 8 #[vR a1, vU] [(.ref a1)])) rfl rfl (hb hby d12_8)
  have q25 := fun t (kt : Go p e below T24 (mkF m 32 #[vR a1, vU] [(.ref a1)]) t) => q23 t (st24 t (by
    show Go _ _ _ _ (mkF m 11 #[vR a1, vU] [(.int 0)]) _
    refine XS.ifYes X24.here hx rfl (pc0 := 11) (pc' := 31) rfl (hb hby d12_11) rfl ((if0 _ _).trans (teq (rfl : (0 : Int32) = (0 : Int32))).1) (by decide) (by decide) ?_
    show Go _ _ _ _ (mkF m 31 _ []) _
    refine XS.aloadN X24.here hx rfl (hb hby d12_31) rfl rfl ?_
    exact kt))
  obtain ⟨cq27, kq27, q27a, q27b, q27c⟩ := isOf hZ e24 G0
  obtain ⟨_, _, ⟨T26, L26, k26, n26⟩, -, X26, ⟨_, hQ26, l26, y26, z26⟩, st26⟩ := X24.interfaceBack hx (xi := ym31) (y := ym17) hown (ow hZ hw 96 rfl) (ow hZ hw 97 rfl) (ow hZ hw 98 rfl) (ow hZ hw 99 rfl) (ow hZ hw 100 rfl) (ow hZ hw 101 rfl) (ow hZ hw 102 rfl) (ow hZ hw 103 rfl) (by decide) (backOf (W := 0) (rm13_2 l Z a0 hw [] cx a1 h0 n0 O0 G2) hZ (ox hw 104 rfl) (ox hw 53 rfl) (by decide) (by decide)) q27a q27b q27c (g := (mkF m 32 #[vR a1, vU] [(.ref a1)])) rfl (by rw [hml]; rfl) (Steps.refl _) (argsL := []) (rest := []) (lenOf pd_15 rfl) rfl own_le0 (hb hby d12_32) (fun _ _ => ⟨rfl, e24, (by decide : 0 + 0 ≤ _), (by decide : 0 + 0 ≤ _)⟩)
  dsimp only [Pt.U, Pt.locs, Pt.cells, Pt.slots] at X26 l26 y26 z26 st26 hQ26
  subst l26 y26 z26
  obtain ⟨rfl, Nq26, eq26⟩ := hQ26
  have N28 := Fr.app N0 Nq26
  have q29 := fun t (kt : Go p e below T26 (mkF m 45 #[vR a1, vU] [(.ref a1)]) t) => q25 t (st26.trans (by
    show Go _ _ _ _ (mkF m 37 #[vR a1, vU] [(.int 0)]) _
    refine XS.ifYes X26.here hx rfl (pc0 := 37) (pc' := 44) rfl (hb hby d12_37) rfl ((if0 _ _).trans (teq (rfl : (0 : Int32) = (0 : Int32))).1) (by decide) (by decide) ?_
    show Go _ _ _ _ (mkF m 44 _ []) _
    refine XS.aloadN X26.here hx rfl (hb hby d12_44) rfl rfl ?_
    exact kt))
  obtain ⟨cq31, kq31, q31a, q31b, q31c⟩ := isOf hZ eq26 G0
  obtain ⟨_, _, ⟨T30, L30, k30, n30⟩, -, X30, ⟨_, hQ30, l30, y30, z30⟩, st30⟩ := X26.interfaceBack hx (xi := ym32) (y := ym28) hown (ow hZ hw 233 rfl) (ow hZ hw 234 rfl) (ow hZ hw 235 rfl) (ow hZ hw 236 rfl) (ow hZ hw 237 rfl) (ow hZ hw 238 rfl) (ow hZ hw 239 rfl) (ow hZ hw 103 rfl) (by decide) (backOf (W := 0) (rm31_2 l Z a0 hw [] cx a1 b x1 x2 kb h0 n0 O0 G1 G2 G3 G4 G5 G6) hZ (ox hw 240 rfl) (ox hw 53 rfl) (by decide) (by decide)) q31a q31b q31c (g := (mkF m 45 #[vR a1, vU] [(.ref a1)])) rfl (by rw [hml]; rfl) (Steps.refl _) (argsL := []) (rest := []) (lenOf pd_6 rfl) rfl own_le0 (hb hby d12_45) (fun _ _ => ⟨rfl, eq26, (by decide : 0 + 1 ≤ _), (by decide : 0 + 2 ≤ _)⟩)
  dsimp only [Pt.U, Pt.locs, Pt.cells, Pt.slots] at X30 l30 y30 z30 st30 hQ30
  subst l30 y30 z30
  obtain ⟨r_30, kr_30, rfl, Nq30, Kq30, fr30_0, fq30_0, fq30_1, pq30_0⟩ := hQ30
  have N32 := Fr.app N28 Nq30
  have gg33 : n0 ≤ r_30 := Nat.le_trans (O0.1 ▸ O0.2.1) fr30_0
  have sz34 : h0.size ≤ r_30 := Nat.le_trans K0.1 fr30_0
  have O35 := O0.keep Kq30 all0
  have K36 := K0.trans Kq30 all0
  have f37 := (G5.keep Kq30)
  have f38 := (G6.keep Kq30)
  obtain ⟨_, _, ⟨T39, L39, k39, n39⟩, -, X39, ⟨_, hQ39, l39, y39, z39⟩, st39⟩ := Jvm.LawKit.callS X30 hx (y := ym29) hown (ow hZ hw 263 rfl) (ow hZ hw 264 rfl) (ow hZ hw 84 rfl) (ow hZ hw 265 rfl) (by decide) (backOf (W := 0) (rm35_2 l Z a0 hw [] cx r_30 x1 x2 kr_30 T30.heap n0 O35 fq30_0 f37 f38) hZ (ox hw 265 rfl) (ox hw 84 rfl) (by decide) (by decide)) (g := (mkF m 50 #[vR a1, vU] [(.ref r_30)])) rfl (by rw [hml]; rfl) (argsL := [(.ref r_30)]) (rest := []) (lenOf pd_16 rfl) rfl own_le0 (hb hby d12_50) (fun _ _ => ⟨rfl, rfl, (by decide : 1 + 1 ≤ _), (by decide : 2 + 2 ≤ _)⟩)
  dsimp only [Pt.U, Pt.locs, Pt.cells, Pt.slots] at X39 l39 y39 z39 st39 hQ39
  subst l39 y39 z39
  obtain ⟨r_39, rfl, Nq39, Kq39, fr39_0, fq39_0, fq39_1, fq39_2⟩ := hQ39
  have N40 := Fr.app N32 Nq39
  have gg41 : n0 ≤ r_39 := Nat.le_trans (O35.1 ▸ O35.2.1) fr39_0
  have sz42 : h0.size ≤ r_39 := Nat.le_trans K36.1 fr39_0
  have O43 := O35.keep Kq39 all0
  have K44 := K36.trans Kq39 all0
  have q45 := fun t (kt : Go p e below T39 (mkF m 53 #[vR a1, vU] [(.ref r_39)]) t) => q29 t (st30.trans (st39 t kt))
  exact ⟨some (.ref r_39), T39, _, _, _, _, X39, by decide, by decide, nofun, q45, fun fs hr => retOut X39 hx hret rfl (o4 ⟨rfl, rfl, rfl⟩) (hb hby d12_53) hr, ⟨r_39, rfl, N40, K44, sz42, fq39_0, fq39_1, fq39_2⟩⟩
def Q_rm11_2 (Z : State) (a1 : Addr) (b : Addr) (x1 : Addr) (x2 : Addr) (kb : ClassId) (cw : Nat → Nat) (z_cs : Int32) (h0 : Heap) (n0 : Nat) (v : Option Value) (h : Heap) (L : List Loc) : Prop := ∃ (r : Addr), v = some (.ref r) ∧ Fr n0 L ∧ Keep h0 h [] ∧ h0.size ≤ r ∧ Exa Z h r sk19 ∧ Fld Z h r sk19 "e0" sk3 (.ref x1) ∧ Fld Z h r sk19 "e1" sk3 (.ref x2)
theorem rm11_2 (l : Launch) (Z : State) (a0 : Array Value) (hw : ∀ d ∈ tables_1, d.before a0 Z = true) (ws : List Jvm.Cond) {cw : Nat → Nat} {z_cs : Int32} (cx : Cx Z cw z_cs) (a1 : Addr) (b : Addr) (x1 : Addr) (x2 : Addr) (kb : ClassId) (h0 : Heap) (n0 : Nat) (O0 : Old Z n0 h0) (G0 : Exa Z h0 a1 sk18) (G1 : Fld Z h0 a1 sk18 sk12 sk6 (.ref b)) (G2 : Fld Z h0 a1 sk18 "size" "I" (.int 2)) (G3 : Arv Z h0 b kb (.object sk14) (10 : Int32) [(.ref x1), (.ref x2), .null, .null, .null, .null, .null, .null, .null, .null] .null) (G4 : Exa Z h0 b sk6) (G5 : Exa Z h0 x1 sk9) (G6 : Exa Z h0 x2 sk9) :
    OwnMet l ym33 (Jvm.Cond.code ym33 jdk_40_method_48_code 1 (some (.object sk23)) :: ws) (own_R 7 2 4 101) #[(.ref a1)] Z h0 (Q_rm11_2 Z a1 b x1 x2 kb cw z_cs h0 n0) := by
  refine own_body (plainFor_of_name pn_11) hisR fun p e s m below meth c s₁ hx hby hml hown hnm hret hZ X0 e0 => ?_
  have N0 := Fr.nil n0
  have K0 : Keep h0 h0 [] := Keep.refl _ _
  have pre0 : ∀ t, Go p e below s₁ (mkF m 0 #[vR a1] []) t → Go p e below s₁ (entryFrame m #[(.ref a1)] 1) t := fun t k => castTop (ef_11_R m a1) k
  have q21 := fun t (kt : Go p e below s₁ (mkF m 1 #[vR a1] [(.ref a1)]) t) => pre0 t (by
    show Go _ _ _ _ (mkF m 0 #[vR a1] []) _
    refine XS.aloadN X0.here hx rfl (hb hby d11_0) rfl rfl ?_
    exact kt)
  obtain ⟨_, _, ⟨T22, L22, k22, n22⟩, -, X22, ⟨_, hQ22, l22, y22, z22⟩, st22⟩ := Jvm.LawKit.callS X0 hx (y := ym30) hown (ow hZ hw 86 rfl) (ow hZ hw 87 rfl) (ow hZ hw 88 rfl) (ow hZ hw 89 rfl) (by decide) (backOf (W := 0) (rm12_2 l Z a0 hw [] cx a1 b x1 x2 kb h0 n0 O0 G0 G1 G2 G3 G4 G5 G6) hZ (ox hw 89 rfl) (ox hw 88 rfl) (by decide) (by decide)) (g := (mkF m 1 #[vR a1] [(.ref a1)])) rfl (by rw [hml]; rfl) (argsL := [(.ref a1)]) (rest := []) (lenOf pd_17 rfl) rfl own_le0 (hb hby d11_1) (fun _ _ => ⟨rfl, e0, (by decide : 0 + 2 ≤ _), (by decide : 0 + 4 ≤ _)⟩)
  dsimp only [Pt.U, Pt.locs, Pt.cells, Pt.slots] at X22 l22 y22 z22 st22 hQ22
  subst l22 y22 z22
  obtain ⟨r_22, rfl, Nq22, Kq22, fr22_0, fq22_0, fq22_1, fq22_2⟩ := hQ22
  have N23 := Fr.app N0 Nq22
  have gg24 : n0 ≤ r_22 := Nat.le_trans (O0.1 ▸ O0.2.1) fr22_0
  have sz25 : h0.size ≤ r_22 := Nat.le_trans K0.1 fr22_0
  have O26 := O0.keep Kq22 all0
  have K27 := K0.trans Kq22 all0
  have q28 := fun t (kt : Go p e below T22 (mkF m 4 #[vR a1] [(.ref r_22)]) t) => q21 t (st22 t kt)
  exact ⟨some (.ref r_22), T22, _, _, _, _, X22, by decide, by decide, nofun, q28, fun fs hr => retOut X22 hx hret rfl (o4 ⟨rfl, rfl, rfl⟩) (hb hby d11_4) hr, ⟨r_22, rfl, N23, K27, sz25, fq22_0, fq22_1, fq22_2⟩⟩
def Q_rm33_3 (Z : State) (b : Addr) (x1 : Addr) (x2 : Addr) (x3 : Addr) (kb : ClassId) (cw : Nat → Nat) (z_cs : Int32) (h0 : Heap) (n0 : Nat) (v : Option Value) (h : Heap) (L : List Loc) : Prop := ∃ (r : Addr) (kr : ClassId), v = some (.ref r) ∧ Fr n0 L ∧ Keep h0 h [] ∧ h0.size ≤ r ∧ Arv Z h r kr (.object sk14) (3 : Int32) [(.ref x1), (.ref x2), (.ref x3)] .null ∧ Exa Z h r sk6 ∧ (Ovr Z kr sk14)
theorem rm33_3 (l : Launch) (Z : State) (a0 : Array Value) (hw : ∀ d ∈ tables_1, d.before a0 Z = true) (ws : List Jvm.Cond) {cw : Nat → Nat} {z_cs : Int32} (cx : Cx Z cw z_cs) (b : Addr) (x1 : Addr) (x2 : Addr) (x3 : Addr) (kb : ClassId) (h0 : Heap) (n0 : Nat) (O0 : Old Z n0 h0) (G0 : Arv Z h0 b kb (.object sk14) (10 : Int32) [(.ref x1), (.ref x2), (.ref x3), .null, .null, .null, .null, .null, .null, .null] .null) (G1 : Exa Z h0 b sk6) (G2 : Exa Z h0 x1 sk9) (G3 : Exa Z h0 x2 sk9) (G4 : Exa Z h0 x3 sk9) :
    OwnMet l ym26 (Jvm.Cond.code ym26 jdk_65_method_120_code 4 (some (.array (.object sk14))) :: ws) (own_R 1 1 3 48) #[(.ref b), (.int 3), (.ref (cw 20))] Z h0 (Q_rm33_3 Z b x1 x2 x3 kb cw z_cs h0 n0) := by
  refine own_body (plainFor_of_name pn_33) hisR fun p e s m below meth c s₁ hx hby hml hown hnm hret hZ X0 e0 => ?_
  have N0 := Fr.nil n0
  have K0 : Keep h0 h0 [] := Keep.refl _ _
  have pre0 : ∀ t, Go p e below s₁ (mkF m 0 #[vR b, vI 3, vR (cw 20), vU] []) t → Go p e below s₁ (entryFrame m #[(.ref b), (.int 3), (.ref (cw 20))] 4) t := fun t k => castTop (ef_33_RIR m b (3 : Int32) (cw 20)) k
  have q21 := fun t (kt : Go p e below s₁ (mkF m 1 #[vR b, vI 3, vR (cw 20), vU] [(.ref (cw 20))]) t) => pre0 t (by
    show Go _ _ _ _ (mkF m 0 #[vR b, vI 3, vR (cw 20), vU] []) _
    refine XS.aloadN X0.here hx rfl (hb hby d33_0) rfl rfl ?_
    exact kt)
  obtain ⟨T22, X22, e22, st22⟩ := own_ldcM X0 hx hZ hown (ox hw 254 rfl) e0 cx.2.2.2.2.2.2.2.2.2.2.2.2.2.2.2.2.2.2.2.2.2.2.2.2.2.2.2.2.2.2.2.2.2.2.2.2.2.2.2.2.2.2 (g := (mkF m 1 #[vR b, vI 3, vR (cw 20), vU] [(.ref (cw 20))])) rfl (hb hby d33_1)
  have q23 := fun t (kt : Go p e below T22 (mkF m 7 #[vR b, vI 3, vR (cw 20), vU] [(.int 3)]) t) => q21 t (st22 t (by
    show Go _ _ _ _ (mkF m 3 #[vR b, vI 3, vR (cw 20), vU] [(.ref (cw 20)), (.ref (cw 20))]) _
    refine Jvm.RoadKit.acmp (g := (mkF m 3 #[vR b, vI 3, vR (cw 20), vU] [(.ref (cw 20)), (.ref (cw 20))])) X22 hx rfl rfl rfl (pc0 := 3) (pc' := 6) (same := true) rfl (hb hby d33_3) rfl (decide_eq_true rfl) (by decide) (by decide) ?_
    show Go _ _ _ _ (mkF m 6 _ []) _
    refine XS.iloadN X22.here hx rfl (hb hby d33_6) rfl ?_
    exact kt))
  obtain ⟨T24, h24, k24, X24, e24, E24, A24, Ex24, O_24, st24⟩ := newRE X22 hx hZ hown (ox hw 255 rfl) (ox hw 211 rfl) e22 (g := (mkF m 7 #[vR b, vI 3, vR (cw 20), vU] [(.int 3)])) rfl (hb hby d33_7) rfl (by decide) (cap := 3) (by decide) (by decide) (by decide) (by decide) (ad := sk6) (by decide +kernel)
  obtain ⟨b24, g24⟩ : ∃ z, z = h0.size := ⟨_, rfl⟩
  rw [← g24] at A24 st24 Ex24
  have gg25 : n0 ≤ b24 := Nat.le_trans (O0.1 ▸ O0.2.1) (Nat.le_of_eq g24.symm)
  have sz26 : h0.size ≤ b24 := Nat.le_trans K0.1 (Nat.le_of_eq g24.symm)
  have O27 := O0.ext E24
  have K28 := K0.ext E24
  have V24 : Arv Z h24 b24 k24 (.object sk14) (3 : Int32) [.null, .null, .null] .null := (Arv.new A24 (by decide)).pad (pad_rep [] .null 3)
  have f29 := (G0.ext E24)
  have q31 := fun t (kt : Go p e below T24 (mkF m 30 #[vR b, vI 3, vR (cw 20), vR b24] [(.ref b), (.int 0), (.ref b24), (.int 0), (.ref b)]) t) => q23 t (st24 t (by
    show Go _ _ _ _ (mkF m 10 #[vR b, vI 3, vR (cw 20), vU] [(.ref b24)]) _
    refine XS.goto X24.here hx rfl (pc0 := 10) (pc' := 24) rfl (hb hby d33_10) (by decide) (by decide) ?_
    show Go _ _ _ _ (mkF m 24 _ [(.ref b24)]) _
    refine XS.astoreN X24.here hx rfl (hb hby d33_24) rfl rfl (l' := #[vR b, vI 3, vR (cw 20), vR b24]) rfl ?_
    show Go _ _ _ _ (mkF m 25 #[vR b, vI 3, vR (cw 20), vR b24] []) _
    refine XS.aloadN X24.here hx rfl (hb hby d33_25) rfl rfl ?_
    show Go _ _ _ _ (mkF m 26 _ [(.ref b)]) _
    refine XS.iconst X24.here hx rfl (hb hby d33_26) ?_
    show Go _ _ _ _ (mkF m 27 _ [(.int 0), (.ref b)]) _
    refine XS.aloadN X24.here hx rfl (hb hby d33_27) rfl rfl ?_
    show Go _ _ _ _ (mkF m 28 _ [(.ref b24), (.int 0), (.ref b)]) _
    refine XS.iconst X24.here hx rfl (hb hby d33_28) ?_
    show Go _ _ _ _ (mkF m 29 _ [(.int 0), (.ref b24), (.int 0), (.ref b)]) _
    refine XS.aloadN X24.here hx rfl (hb hby d33_29) rfl rfl ?_
    exact kt))
  obtain ⟨c30, Ar30, -, S30, N30, -, -⟩ := id f29
  have q32 := fun t (kt : Go p e below T24 (mkF m 32 #[vR b, vI 3, vR (cw 20), vR b24] [(.int 3), (.int 10), (.int 0), (.ref b24), (.int 0), (.ref b)]) t) => q31 t (by
    show Go _ _ _ _ (mkF m 30 #[vR b, vI 3, vR (cw 20), vR b24] [(.ref b), (.int 0), (.ref b24), (.int 0), (.ref b)]) _
    refine X24.arraylength hx (by rw [e24]; exact Ar30.1) (State.isArrayOf_alike hZ.alike Ar30.2.1) (g := (mkF m 30 #[vR b, vI 3, vR (cw 20), vR b24] [(.ref b), (.int 0), (.ref b24), (.int 0), (.ref b)])) rfl rfl (hb hby d33_30) _ ?_
    rw [len_of S30 N30]
    show Go _ _ _ _ (mkF m 31 _ [(.int 10), (.int 0), (.ref b24), (.int 0), (.ref b)]) _
    refine XS.iloadN X24.here hx rfl (hb hby d33_31) rfl ?_
    exact kt)
  obtain ⟨_, _, ⟨T33, L33, k33, n33⟩, -, X33, ⟨_, hQ33, l33, y33, z33⟩, st33⟩ := Jvm.LawKit.callS X24 hx (y := ym25) hown (ow hZ hw 256 rfl) (ow hZ hw 257 rfl) (ow hZ hw 208 rfl) (ow hZ hw 258 rfl) (by decide) (backOf (W := 4) (rm34_3 l Z a0 hw [] cx  h24 n0 O27 ) hZ (ox hw 258 rfl) (ox hw 208 rfl) (by decide) (by decide)) (g := (mkF m 32 #[vR b, vI 3, vR (cw 20), vR b24] [(.int 3), (.int 10), (.int 0), (.ref b24), (.int 0), (.ref b)])) rfl (by rw [hml]; rfl) (argsL := [(.int 10), (.int 3)]) (rest := [(.int 0), (.ref b24), (.int 0), (.ref b)]) (lenOf pd_4 rfl) rfl own_le0 (hb hby d33_32) (fun _ _ => ⟨rfl, e24, (by decide : 1 + 0 ≤ _), (by decide : 3 + 0 ≤ _)⟩)
  dsimp only [Pt.U, Pt.locs, Pt.cells, Pt.slots] at X33 l33 y33 z33 st33 hQ33
  subst l33 y33 z33
  obtain ⟨rfl, Nq33, eq33⟩ := hQ33
  have N34 := Fr.app N0 Nq33
  obtain ⟨c35, Ar35, q35, -⟩ := id V24
  have f36 := (G4.ext E24)
  have f37 := (G3.ext E24)
  have f38 := (G2.ext E24)
  obtain ⟨T39, h39, L39, X39, e39, N39, K39, V39, st39⟩ := cpA X33 hx hZ hown (ox hw 259 rfl) (ox hw 262 rfl) (ox hw 260 rfl) (ox hw 261 rfl) eq33 f29 V24 (us := [(.ref x1), (.ref x2), (.ref x3)]) (Or.inr ⟨rfl, rfl, ⟨Sto.ofV Ar35 q35 O_24 (Ins.of_exa f38 (ox hw 212 rfl)), ⟨Sto.ofV Ar35 q35 O_24 (Ins.of_exa f37 (ox hw 212 rfl)), ⟨Sto.ofV Ar35 q35 O_24 (Ins.of_exa f36 (ox hw 212 rfl)), trivial⟩⟩⟩⟩) (by decide) (by decide) (by decide) (by decide) (by decide) rfl (by decide) N34 gg25 (g := (mkF m 35 #[vR b, vI 3, vR (cw 20), vR b24] [(.int 3), (.int 0), (.ref b24), (.int 0), (.ref b)])) rfl (by rw [hml]; rfl) rfl (hb hby d33_35) (by decide) (W := 0) own_le0 (by decide)
  have O40 := O27.keep K39 (allS gg25 all0)
  have K41 := K28.trans K39 (allS (Or.inr sz26) all0)
  have Vv39 : Arv Z h39 b24 k24 (.object sk14) (3 : Int32) [(.ref x1), (.ref x2), (.ref x3)] .null := V39
  have q42 := fun t (kt : Go p e below T39 (mkF m 39 #[vR b, vI 3, vR (cw 20), vR b24] [(.ref b24)]) t) => q32 t (st33 t (st39 t (by
    show Go _ _ _ _ (mkF m 38 #[vR b, vI 3, vR (cw 20), vR b24] []) _
    refine XS.aloadN X39.here hx rfl (hb hby d33_38) rfl rfl ?_
    exact kt)))
  have f43 := (Ex24.keep K39)
  exact ⟨some (.ref b24), T39, _, _, _, _, X39, by decide, by decide, nofun, q42, fun fs hr => retOut X39 hx hret rfl (o4 ⟨rfl, rfl, rfl⟩) (hb hby d33_39) hr, by rw [e39]; exact ⟨b24, k24, rfl, N39, K41, sz26, Vv39, f43, O_24⟩⟩
def Q_rm32_3 (Z : State) (b : Addr) (x1 : Addr) (x2 : Addr) (x3 : Addr) (kb : ClassId) (cw : Nat → Nat) (z_cs : Int32) (h0 : Heap) (n0 : Nat) (v : Option Value) (h : Heap) (L : List Loc) : Prop := ∃ (r : Addr) (kr : ClassId), v = some (.ref r) ∧ Fr n0 L ∧ Keep h0 h [] ∧ h0.size ≤ r ∧ Arv Z h r kr (.object sk14) (3 : Int32) [(.ref x1), (.ref x2), (.ref x3)] .null ∧ Exa Z h r sk6 ∧ (Ovr Z kr sk14)
theorem rm32_3 (l : Launch) (Z : State) (a0 : Array Value) (hw : ∀ d ∈ tables_1, d.before a0 Z = true) (ws : List Jvm.Cond) {cw : Nat → Nat} {z_cs : Int32} (cx : Cx Z cw z_cs) (b : Addr) (x1 : Addr) (x2 : Addr) (x3 : Addr) (kb : ClassId) (h0 : Heap) (n0 : Nat) (O0 : Old Z n0 h0) (G0 : Arv Z h0 b kb (.object sk14) (10 : Int32) [(.ref x1), (.ref x2), (.ref x3), .null, .null, .null, .null, .null, .null, .null] .null) (G1 : Exa Z h0 b sk6) (G2 : Exa Z h0 x1 sk9) (G3 : Exa Z h0 x2 sk9) (G4 : Exa Z h0 x3 sk9) :
    OwnMet l ym27 (Jvm.Cond.code ym27 jdk_65_method_119_code 2 (some (.array (.object sk14))) :: ws) (own_R 2 1 3 63) #[(.ref b), (.int 3)] Z h0 (Q_rm32_3 Z b x1 x2 x3 kb cw z_cs h0 n0) := by
  refine own_body (plainFor_of_name pn_32) hisR fun p e s m below meth c s₁ hx hby hml hown hnm hret hZ X0 e0 => ?_
  have N0 := Fr.nil n0
  have K0 : Keep h0 h0 [] := Keep.refl _ _
  have pre0 : ∀ t, Go p e below s₁ (mkF m 0 #[vR b, vI 3] []) t → Go p e below s₁ (entryFrame m #[(.ref b), (.int 3)] 2) t := fun t k => castTop (ef_32_RI m b (3 : Int32)) k
  have q21 := fun t (kt : Go p e below s₁ (mkF m 3 #[vR b, vI 3] [(.ref b), (.int 3), (.ref b)]) t) => pre0 t (by
    show Go _ _ _ _ (mkF m 0 #[vR b, vI 3] []) _
    refine XS.aloadN X0.here hx rfl (hb hby d32_0) rfl rfl ?_
    show Go _ _ _ _ (mkF m 1 _ [(.ref b)]) _
    refine XS.iloadN X0.here hx rfl (hb hby d32_1) rfl ?_
    show Go _ _ _ _ (mkF m 2 _ [(.int 3), (.ref b)]) _
    refine XS.aloadN X0.here hx rfl (hb hby d32_2) rfl rfl ?_
    exact kt)
  obtain ⟨T22, X22, e22, st22⟩ := own_gcls X0 hx hZ hown (ox hw 245 rfl) (ox hw 246 rfl) (ox hw 94 rfl) (ox hw 248 rfl) (ox hw 247 rfl) (ox hw 249 rfl) e0 G1 cx.2.2.2.2.2.2.2.2.2.2.2.2.2.2.2.2.2.2.2.2.2.2.2.2.2.2.2.2.2.2.2.2.2.2.2.2.2.2.2.2.2.2 (g := (mkF m 3 #[vR b, vI 3] [(.ref b), (.int 3), (.ref b)])) rfl (by rw [hml]; rfl) rfl (hb hby d32_3) (by decide) (W := 2) own_le0 (by decide)
  obtain ⟨_, _, ⟨T23, L23, k23, n23⟩, -, X23, ⟨_, hQ23, l23, y23, z23⟩, st23⟩ := Jvm.LawKit.callS X22 hx (y := ym26) hown (ow hZ hw 251 rfl) (ow hZ hw 252 rfl) (ow hZ hw 243 rfl) (ow hZ hw 253 rfl) (by decide) (backOf (W := 0) (rm33_3 l Z a0 hw [] cx b x1 x2 x3 kb h0 n0 O0 G0 G1 G2 G3 G4) hZ (ox hw 253 rfl) (ox hw 243 rfl) (by decide) (by decide)) (g := (mkF m 6 #[vR b, vI 3] [(.ref (cw 20)), (.int 3), (.ref b)])) rfl (by rw [hml]; rfl) (argsL := [(.ref b), (.int 3), (.ref (cw 20))]) (rest := []) (lenOf pd_12 rfl) rfl own_le0 (hb hby d32_6) (fun _ _ => ⟨rfl, e22, (by decide : 0 + 1 ≤ _), (by decide : 0 + 3 ≤ _)⟩)
  dsimp only [Pt.U, Pt.locs, Pt.cells, Pt.slots] at X23 l23 y23 z23 st23 hQ23
  subst l23 y23 z23
  obtain ⟨r_23, kr_23, rfl, Nq23, Kq23, fr23_0, fq23_0, fq23_1, pq23_0⟩ := hQ23
  have N24 := Fr.app N0 Nq23
  have gg25 : n0 ≤ r_23 := Nat.le_trans (O0.1 ▸ O0.2.1) fr23_0
  have sz26 : h0.size ≤ r_23 := Nat.le_trans K0.1 fr23_0
  have O27 := O0.keep Kq23 all0
  have K28 := K0.trans Kq23 all0
  have q29 := fun t (kt : Go p e below T23 (mkF m 9 #[vR b, vI 3] [(.ref r_23)]) t) => q21 t (st22 t (st23 t kt))
  exact ⟨some (.ref r_23), T23, _, _, _, _, X23, by decide, by decide, nofun, q29, fun fs hr => retOut X23 hx hret rfl (o4 ⟨rfl, rfl, rfl⟩) (hb hby d32_9) hr, ⟨r_23, kr_23, rfl, N24, K28, sz26, fq23_0, fq23_1, pq23_0⟩⟩
def Q_rm31_3 (Z : State) (a1 : Addr) (b : Addr) (x1 : Addr) (x2 : Addr) (x3 : Addr) (kb : ClassId) (cw : Nat → Nat) (z_cs : Int32) (h0 : Heap) (n0 : Nat) (v : Option Value) (h : Heap) (L : List Loc) : Prop := ∃ (r : Addr) (kr : ClassId), v = some (.ref r) ∧ Fr n0 L ∧ Keep h0 h [] ∧ h0.size ≤ r ∧ Arv Z h r kr (.object sk14) (3 : Int32) [(.ref x1), (.ref x2), (.ref x3)] .null ∧ Exa Z h r sk6 ∧ (Ovr Z kr sk14)
theorem rm31_3 (l : Launch) (Z : State) (a0 : Array Value) (hw : ∀ d ∈ tables_1, d.before a0 Z = true) (ws : List Jvm.Cond) {cw : Nat → Nat} {z_cs : Int32} (cx : Cx Z cw z_cs) (a1 : Addr) (b : Addr) (x1 : Addr) (x2 : Addr) (x3 : Addr) (kb : ClassId) (h0 : Heap) (n0 : Nat) (O0 : Old Z n0 h0) (G0 : Fld Z h0 a1 sk18 sk12 sk6 (.ref b)) (G1 : Fld Z h0 a1 sk18 "size" "I" (.int 3)) (G2 : Arv Z h0 b kb (.object sk14) (10 : Int32) [(.ref x1), (.ref x2), (.ref x3), .null, .null, .null, .null, .null, .null, .null] .null) (G3 : Exa Z h0 b sk6) (G4 : Exa Z h0 x1 sk9) (G5 : Exa Z h0 x2 sk9) (G6 : Exa Z h0 x3 sk9) :
    OwnMet l ym28 (Jvm.Cond.code ym28 jdk_38_method_16_code 1 (some (.array (.object sk14))) :: ws) (own_R 3 1 3 76) #[(.ref a1)] Z h0 (Q_rm31_3 Z a1 b x1 x2 x3 kb cw z_cs h0 n0) := by
  refine own_body (plainFor_of_name pn_31) hisR fun p e s m below meth c s₁ hx hby hml hown hnm hret hZ X0 e0 => ?_
  have N0 := Fr.nil n0
  have K0 : Keep h0 h0 [] := Keep.refl _ _
  have pre0 : ∀ t, Go p e below s₁ (mkF m 0 #[vR a1] []) t → Go p e below s₁ (entryFrame m #[(.ref a1)] 1) t := fun t k => castTop (ef_31_R m a1) k
  have q21 := fun t (kt : Go p e below s₁ (mkF m 1 #[vR a1] [(.ref a1)]) t) => pre0 t (by
    show Go _ _ _ _ (mkF m 0 #[vR a1] []) _
    refine XS.aloadN X0.here hx rfl (hb hby d31_0) rfl rfl ?_
    exact kt)
  obtain ⟨T22, X22, e22, st22⟩ := getF X0 hx hZ hown (host := "") (Or.inl (ox hw 73 rfl)) Via.refl e0 G0 (g := (mkF m 1 #[vR a1] [(.ref a1)])) rfl rfl (hb hby d31_1)
  have q23 := fun t (kt : Go p e below T22 (mkF m 5 #[vR a1] [(.ref a1), (.ref b)]) t) => q21 t (st22 t (by
    show Go _ _ _ _ (mkF m 4 #[vR a1] [(.ref b)]) _
    refine XS.aloadN X22.here hx rfl (hb hby d31_4) rfl rfl ?_
    exact kt))
  obtain ⟨T24, X24, e24, st24⟩ := getF X22 hx hZ hown (host := "") (Or.inl (ox hw 105 rfl)) Via.refl e22 G1 (g := (mkF m 5 #[vR a1] [(.ref a1), (.ref b)])) rfl rfl (hb hby d31_5)
  obtain ⟨_, _, ⟨T25, L25, k25, n25⟩, -, X25, ⟨_, hQ25, l25, y25, z25⟩, st25⟩ := Jvm.LawKit.callS X24 hx (y := ym27) hown (ow hZ hw 241 rfl) (ow hZ hw 242 rfl) (ow hZ hw 243 rfl) (ow hZ hw 244 rfl) (by decide) (backOf (W := 0) (rm32_3 l Z a0 hw [] cx b x1 x2 x3 kb h0 n0 O0 G2 G3 G4 G5 G6) hZ (ox hw 244 rfl) (ox hw 243 rfl) (by decide) (by decide)) (g := (mkF m 8 #[vR a1] [(.int 3), (.ref b)])) rfl (by rw [hml]; rfl) (argsL := [(.ref b), (.int 3)]) (rest := []) (lenOf pd_13 rfl) rfl own_le0 (hb hby d31_8) (fun _ _ => ⟨rfl, e24, (by decide : 0 + 1 ≤ _), (by decide : 0 + 3 ≤ _)⟩)
  dsimp only [Pt.U, Pt.locs, Pt.cells, Pt.slots] at X25 l25 y25 z25 st25 hQ25
  subst l25 y25 z25
  obtain ⟨r_25, kr_25, rfl, Nq25, Kq25, fr25_0, fq25_0, fq25_1, pq25_0⟩ := hQ25
  have N26 := Fr.app N0 Nq25
  have gg27 : n0 ≤ r_25 := Nat.le_trans (O0.1 ▸ O0.2.1) fr25_0
  have sz28 : h0.size ≤ r_25 := Nat.le_trans K0.1 fr25_0
  have O29 := O0.keep Kq25 all0
  have K30 := K0.trans Kq25 all0
  have q31 := fun t (kt : Go p e below T25 (mkF m 11 #[vR a1] [(.ref r_25)]) t) => q23 t (st24 t (st25 t kt))
  exact ⟨some (.ref r_25), T25, _, _, _, _, X25, by decide, by decide, nofun, q31, fun fs hr => retOut X25 hx hret rfl (o4 ⟨rfl, rfl, rfl⟩) (hb hby d31_11) hr, ⟨r_25, kr_25, rfl, N26, K30, sz28, fq25_0, fq25_1, pq25_0⟩⟩
theorem ef_36_R (m : MethodId) (x0 : Addr) : entryFrame m #[(.ref x0)] 3 = mkF m 0 #[.val (.ref x0), .unset, .unset] [] := by first | (simp [entryFrame, mkF, argsToLocals, Value.category]; done) | rfl
theorem pn_36 : plainName "java/util/ImmutableCollections" = true := by first | (simp [plainName, overriddenIn]; done) | decide +kernel
theorem d36_0 : decode jdk_56_method_4_code 0 = .ok (.aload_n 0, 1) := by decide +kernel
theorem d36_1 : decode jdk_56_method_4_code 1 = .ok (.arraylength, 1) := by decide +kernel
theorem d36_2 : decode jdk_56_method_4_code 2 = .ok (.anewarray 2, 3) := by decide +kernel
theorem d36_5 : decode jdk_56_method_4_code 5 = .ok (.astore_n 1, 1) := by decide +kernel
theorem d36_6 : decode jdk_56_method_4_code 6 = .ok (.iconst 0, 1) := by decide +kernel
theorem d36_7 : decode jdk_56_method_4_code 7 = .ok (.istore_n 2, 1) := by decide +kernel
theorem d36_8 : decode jdk_56_method_4_code 8 = .ok (.iload_n 2, 1) := by decide +kernel
theorem d36_9 : decode jdk_56_method_4_code 9 = .ok (.aload_n 0, 1) := by decide +kernel
theorem d36_10 : decode jdk_56_method_4_code 10 = .ok (.arraylength, 1) := by decide +kernel
theorem d36_11 : decode jdk_56_method_4_code 11 = .ok (.if_icmp .ge 18, 3) := by decide +kernel
theorem d36_14 : decode jdk_56_method_4_code 14 = .ok (.aload_n 1, 1) := by decide +kernel
theorem d36_15 : decode jdk_56_method_4_code 15 = .ok (.iload_n 2, 1) := by decide +kernel
theorem d36_16 : decode jdk_56_method_4_code 16 = .ok (.aload_n 0, 1) := by decide +kernel
theorem d36_17 : decode jdk_56_method_4_code 17 = .ok (.iload_n 2, 1) := by decide +kernel
theorem d36_18 : decode jdk_56_method_4_code 18 = .ok (.aaload, 1) := by decide +kernel
theorem d36_19 : decode jdk_56_method_4_code 19 = .ok (.invokestatic 37, 3) := by decide +kernel
theorem d36_22 : decode jdk_56_method_4_code 22 = .ok (.aastore, 1) := by decide +kernel
theorem d36_23 : decode jdk_56_method_4_code 23 = .ok (.iinc 2 1, 3) := by decide +kernel
theorem d36_26 : decode jdk_56_method_4_code 26 = .ok (.goto (-18), 3) := by decide +kernel
theorem d36_29 : decode jdk_56_method_4_code 29 = .ok (.new 12, 3) := by decide +kernel
theorem d36_32 : decode jdk_56_method_4_code 32 = .ok (.dup, 1) := by decide +kernel
theorem d36_33 : decode jdk_56_method_4_code 33 = .ok (.aload_n 1, 1) := by decide +kernel
theorem d36_34 : decode jdk_56_method_4_code 34 = .ok (.iconst 0, 1) := by decide +kernel
theorem d36_35 : decode jdk_56_method_4_code 35 = .ok (.invokespecial 43, 3) := by decide +kernel
theorem pd_19 : parseMethodDescriptor "([Ljava/lang/Object;Z)V" = some ⟨[(.array (.object "java/lang/Object")), .boolean], none⟩ := by decide +kernel
theorem d36_38 : decode jdk_56_method_4_code 38 = .ok (.areturn, 1) := by decide +kernel
def Q_rm36 (Z : State) (b : Addr) (x1 : Addr) (x2 : Addr) (x3 : Addr) (kb : ClassId) (cw : Nat → Nat) (z_cs : Int32) (h0 : Heap) (n0 : Nat) (v : Option Value) (h : Heap) (L : List Loc) : Prop := ∃ (r : Addr) (ra : Addr) (kr : ClassId), v = some (.ref r) ∧ Fr n0 L ∧ Keep h0 h [] ∧ h0.size ≤ r ∧ h0.size ≤ ra ∧ Exa Z h r sk21 ∧ Fld Z h r sk21 "elements" sk6 (.ref ra) ∧ Arv Z h ra kr (.object sk14) (3 : Int32) [(.ref x1), (.ref x2), (.ref x3)] .null
theorem rm36 (l : Launch) (Z : State) (a0 : Array Value) (hw : ∀ d ∈ tables_1, d.before a0 Z = true) (ws : List Jvm.Cond) {cw : Nat → Nat} {z_cs : Int32} (cx : Cx Z cw z_cs) (b : Addr) (x1 : Addr) (x2 : Addr) (x3 : Addr) (kb : ClassId) (h0 : Heap) (n0 : Nat) (O0 : Old Z n0 h0) (G0 : Arv Z h0 b kb (.object sk14) (3 : Int32) [(.ref x1), (.ref x2), (.ref x3)] .null) (G1 : Exa Z h0 x1 sk9) (G2 : Exa Z h0 x2 sk9) (G3 : Exa Z h0 x3 sk9) :
    OwnMet l ym34 (Jvm.Cond.code ym34 jdk_56_method_4_code 3 (some (.object sk23)) :: ws) (own_R 5 2 5 63) #[(.ref b)] Z h0 (Q_rm36 Z b x1 x2 x3 kb cw z_cs h0 n0) := by
  refine own_body (plainFor_of_name pn_36) hisR fun p e s m below meth c s₁ hx hby hml hown hnm hret hZ X0 e0 => ?_
  have N0 := Fr.nil n0
  have K0 : Keep h0 h0 [] := Keep.refl _ _
  have pre0 : ∀ t, Go p e below s₁ (mkF m 0 #[vR b, vU, vU] []) t → Go p e below s₁ (entryFrame m #[(.ref b)] 3) t := fun t k => castTop (ef_36_R m b) k
  have q22 := fun t (kt : Go p e below s₁ (mkF m 1 #[vR b, vU, vU] [(.ref b)]) t) => pre0 t (by
    show Go _ _ _ _ (mkF m 0 #[vR b, vU, vU] []) _
    refine XS.aloadN X0.here hx rfl (hb hby d36_0) rfl rfl ?_
    exact kt)
  obtain ⟨c21, Ar21, -, S21, N21, -, -⟩ := id G0
  have q23 := fun t (kt : Go p e below s₁ (mkF m 2 #[vR b, vU, vU] [(.int 3)]) t) => q22 t (by
    show Go _ _ _ _ (mkF m 1 #[vR b, vU, vU] [(.ref b)]) _
    refine X0.arraylength hx (by rw [e0]; exact Ar21.1) (State.isArrayOf_alike hZ.alike Ar21.2.1) (g := (mkF m 1 #[vR b, vU, vU] [(.ref b)])) rfl rfl (hb hby d36_1) _ ?_
    rw [len_of S21 N21]
    exact kt)
  obtain ⟨T24, h24, k24, X24, e24, E24, A24, Ex24, O_24, st24⟩ := newRE X0 hx hZ hown (ox hw 269 rfl) (ox hw 211 rfl) e0 (g := (mkF m 2 #[vR b, vU, vU] [(.int 3)])) rfl (hb hby d36_2) rfl (by decide) (cap := 3) (by decide) (by decide) (by decide) (by decide) (ad := sk6) (by decide +kernel)
  obtain ⟨b24, g24⟩ : ∃ z, z = h0.size := ⟨_, rfl⟩
  rw [← g24] at A24 st24 Ex24
  have gg25 : n0 ≤ b24 := Nat.le_trans (O0.1 ▸ O0.2.1) (Nat.le_of_eq g24.symm)
  have sz26 : h0.size ≤ b24 := Nat.le_trans K0.1 (Nat.le_of_eq g24.symm)
  have O27 := O0.ext E24
  have K28 := K0.ext E24
  have V24 : Arv Z h24 b24 k24 (.object sk14) (3 : Int32) [.null, .null, .null] .null := (Arv.new A24 (by decide)).pad (pad_rep [] .null 3)
  have f29 := (G0.ext E24)
  have q31 := fun t (kt : Go p e below T24 (mkF m 10 #[vR b, vR b24, vI 0] [(.ref b), (.int 0)]) t) => q23 t (st24 t (by
    show Go _ _ _ _ (mkF m 5 #[vR b, vU, vU] [(.ref b24)]) _
    refine XS.astoreN X24.here hx rfl (hb hby d36_5) rfl rfl (l' := #[vR b, vR b24, vU]) rfl ?_
    show Go _ _ _ _ (mkF m 6 #[vR b, vR b24, vU] []) _
    refine XS.iconst X24.here hx rfl (hb hby d36_6) ?_
    show Go _ _ _ _ (mkF m 7 _ [(.int 0)]) _
    refine XS.istoreN X24.here hx rfl (hb hby d36_7) rfl (l' := #[vR b, vR b24, vI 0]) rfl ?_
    show Go _ _ _ _ (mkF m 8 #[vR b, vR b24, vI 0] []) _
    refine XS.iloadN X24.here hx rfl (hb hby d36_8) rfl ?_
    show Go _ _ _ _ (mkF m 9 _ [(.int 0)]) _
    refine XS.aloadN X24.here hx rfl (hb hby d36_9) rfl rfl ?_
    exact kt))
  obtain ⟨c30, Ar30, -, S30, N30, -, -⟩ := id f29
  have q33 := fun t (kt : Go p e below T24 (mkF m 18 #[vR b, vR b24, vI 0] [(.int 0), (.ref b), (.int 0), (.ref b24)]) t) => q31 t (by
    show Go _ _ _ _ (mkF m 10 #[vR b, vR b24, vI 0] [(.ref b), (.int 0)]) _
    refine X24.arraylength hx (by rw [e24]; exact Ar30.1) (State.isArrayOf_alike hZ.alike Ar30.2.1) (g := (mkF m 10 #[vR b, vR b24, vI 0] [(.ref b), (.int 0)])) rfl rfl (hb hby d36_10) _ ?_
    rw [len_of S30 N30]
    show Go _ _ _ _ (mkF m 11 _ [(.int 3), (.int 0)]) _
    refine XS.icmpNo X24.here hx rfl (hb hby d36_11) rfl (tlt (by decide : (0 : Int32) < (3 : Int32))).2.1 ?_
    show Go _ _ _ _ (mkF m 14 _ []) _
    refine XS.aloadN X24.here hx rfl (hb hby d36_14) rfl rfl ?_
    show Go _ _ _ _ (mkF m 15 _ [(.ref b24)]) _
    refine XS.iloadN X24.here hx rfl (hb hby d36_15) rfl ?_
    show Go _ _ _ _ (mkF m 16 _ [(.int 0), (.ref b24)]) _
    refine XS.aloadN X24.here hx rfl (hb hby d36_16) rfl rfl ?_
    show Go _ _ _ _ (mkF m 17 _ [(.ref b), (.int 0), (.ref b24)]) _
    refine XS.iloadN X24.here hx rfl (hb hby d36_17) rfl ?_
    exact kt)
  obtain ⟨c32, Ar32, -, S32, N32, H32, -⟩ := id f29
  have q34 := fun t (kt : Go p e below T24 (mkF m 19 #[vR b, vR b24, vI 0] [(.ref x1), (.int 0), (.ref b24)]) t) => q33 t (by
    show Go _ _ _ _ (mkF m 18 #[vR b, vR b24, vI 0] [(.int 0), (.ref b), (.int 0), (.ref b24)]) _
    refine X24.aaload hx (j := (0 : Int32)) (v := (.ref x1)) (by rw [e24]; exact Ar32.1) (State.isArrayOf_alike hZ.alike Ar32.2.1) rfl Ar32.2.2 (inb_of S32 ⟨by decide, by decide⟩) (Has.at H32 (inb_of S32 ⟨by decide, by decide⟩) rfl) (g := (mkF m 18 #[vR b, vR b24, vI 0] [(.int 0), (.ref b), (.int 0), (.ref b24)])) rfl rfl (hb hby d36_18) _ ?_
    exact kt)
  obtain ⟨_, _, ⟨T35, L35, k35, n35⟩, -, X35, ⟨_, hQ35, l35, y35, z35⟩, st35⟩ := Jvm.LawKit.callS X24 hx (y := ym19) hown (ow hZ hw 270 rfl) (ow hZ hw 271 rfl) (ow hZ hw 272 rfl) (ow hZ hw 273 rfl) (by decide) (backOf (W := 2) (rm37 l Z a0 hw [] cx x1 h24 n0 O27 ) hZ (ox hw 273 rfl) (ox hw 272 rfl) (by decide) (by decide)) (g := (mkF m 19 #[vR b, vR b24, vI 0] [(.ref x1), (.int 0), (.ref b24)])) rfl (by rw [hml]; rfl) (argsL := [(.ref x1)]) (rest := [(.int 0), (.ref b24)]) (lenOf pd_11 rfl) rfl own_le0 (hb hby d36_19) (fun _ _ => ⟨rfl, e24, (by decide : 1 + 0 ≤ _), (by decide : 3 + 0 ≤ _)⟩)
  dsimp only [Pt.U, Pt.locs, Pt.cells, Pt.slots] at X35 l35 y35 z35 st35 hQ35
  subst l35 y35 z35
  obtain ⟨rfl, Nq35, eq35⟩ := hQ35
  have N36 := Fr.app N0 Nq35
  obtain ⟨c37, Ar37, q37, S37, N37, H37, G37⟩ := id V24
  have hi37 : ¬ ((0 : Int32) < 0 ∨ c37.slots.size ≤ ((0 : Int32)).toNatClampNeg) := inb_of S37 ⟨by decide, by decide⟩
  have f38 := (G1.ext E24)
  obtain ⟨T39, h39, X39, e39, W39, st39⟩ := stR X35 hx hZ eq35 Ar37 (j := (0 : Int32)) hi37 rfl (Sto.ofV Ar37 q37 O_24 (Ins.of_exa f38 (ox hw 212 rfl))) (g := (mkF m 22 #[vR b, vR b24, vI 0] [(.ref x1), (.int 0), (.ref b24)])) rfl rfl (hb hby d36_22)
  have V39 : Arv Z h39 b24 k24 (.object sk14) (3 : Int32) [(.ref x1), .null, .null] .null := Arv.set Ar37 q37 S37 N37 H37 G37 rfl W39 0 rfl (Nat.le_of_ble_eq_true rfl)
  have N40 := Fr.snoc X39 N36 gg25
  have O41 := O27.wr W39 gg25
  have K42 := K28.wr W39 (Or.inr sz26)
  have ne43 : b ≠ b24 := (Nat.ne_of_lt (Nat.lt_of_lt_of_le G0.lt (Nat.le_of_eq g24.symm)))
  have f44 := (f29.other W39 ne43)
  have q46 := fun t (kt : Go p e below T39 (mkF m 10 #[vR b, vR b24, vI 1] [(.ref b), (.int 1)]) t) => q34 t (st35 t (st39 t (by
    show Go _ _ _ _ (mkF m 23 #[vR b, vR b24, vI 0] []) _
    refine XS.iinc X39.here hx rfl (hb hby d36_23) rfl (l' := #[vR b, vR b24, vI 1]) rfl ?_
    show Go _ _ _ _ (mkF m 26 #[vR b, vR b24, vI 1] []) _
    refine XS.goto X39.here hx rfl (pc0 := 26) (pc' := 8) rfl (hb hby d36_26) (by decide) (by decide) ?_
    show Go _ _ _ _ (mkF m 8 _ []) _
    refine XS.iloadN X39.here hx rfl (hb hby d36_8) rfl ?_
    show Go _ _ _ _ (mkF m 9 _ [(.int 1)]) _
    refine XS.aloadN X39.here hx rfl (hb hby d36_9) rfl rfl ?_
    exact kt)))
  obtain ⟨c45, Ar45, -, S45, N45, -, -⟩ := id f44
  have q48 := fun t (kt : Go p e below T39 (mkF m 18 #[vR b, vR b24, vI 1] [(.int 1), (.ref b), (.int 1), (.ref b24)]) t) => q46 t (by
    show Go _ _ _ _ (mkF m 10 #[vR b, vR b24, vI 1] [(.ref b), (.int 1)]) _
    refine X39.arraylength hx (by rw [e39]; exact Ar45.1) (State.isArrayOf_alike hZ.alike Ar45.2.1) (g := (mkF m 10 #[vR b, vR b24, vI 1] [(.ref b), (.int 1)])) rfl rfl (hb hby d36_10) _ ?_
    rw [len_of S45 N45]
    show Go _ _ _ _ (mkF m 11 _ [(.int 3), (.int 1)]) _
    refine XS.icmpNo X39.here hx rfl (hb hby d36_11) rfl (tlt (by decide : (1 : Int32) < (3 : Int32))).2.1 ?_
    show Go _ _ _ _ (mkF m 14 _ []) _
    refine XS.aloadN X39.here hx rfl (hb hby d36_14) rfl rfl ?_
    show Go _ _ _ _ (mkF m 15 _ [(.ref b24)]) _
    refine XS.iloadN X39.here hx rfl (hb hby d36_15) rfl ?_
    show Go _ _ _ _ (mkF m 16 _ [(.int 1), (.ref b24)]) _
    refine XS.aloadN X39.here hx rfl (hb hby d36_16) rfl rfl ?_
    show Go _ _ _ _ (mkF m 17 _ [(.ref b), (.int 1), (.ref b24)]) _
    refine XS.iloadN X39.here hx rfl (hb hby d36_17) rfl ?_
    exact kt)
  obtain ⟨c47, Ar47, -, S47, N47, H47, -⟩ := id f44
  have q49 := fun t (kt : Go p e below T39 (mkF m 19 #[vR b, vR b24, vI 1] [(.ref x2), (.int 1), (.ref b24)]) t) => q48 t (by
    show Go _ _ _ _ (mkF m 18 #[vR b, vR b24, vI 1] [(.int 1), (.ref b), (.int 1), (.ref b24)]) _
    refine X39.aaload hx (j := (1 : Int32)) (v := (.ref x2)) (by rw [e39]; exact Ar47.1) (State.isArrayOf_alike hZ.alike Ar47.2.1) rfl Ar47.2.2 (inb_of S47 ⟨by decide, by decide⟩) (Has.at H47 (inb_of S47 ⟨by decide, by decide⟩) rfl) (g := (mkF m 18 #[vR b, vR b24, vI 1] [(.int 1), (.ref b), (.int 1), (.ref b24)])) rfl rfl (hb hby d36_18) _ ?_
    exact kt)
  obtain ⟨_, _, ⟨T50, L50, k50, n50⟩, -, X50, ⟨_, hQ50, l50, y50, z50⟩, st50⟩ := Jvm.LawKit.callS X39 hx (y := ym19) hown (ow hZ hw 270 rfl) (ow hZ hw 271 rfl) (ow hZ hw 272 rfl) (ow hZ hw 273 rfl) (by decide) (backOf (W := 2) (rm37 l Z a0 hw [] cx x2 h39 n0 O41 ) hZ (ox hw 273 rfl) (ox hw 272 rfl) (by decide) (by decide)) (g := (mkF m 19 #[vR b, vR b24, vI 1] [(.ref x2), (.int 1), (.ref b24)])) rfl (by rw [hml]; rfl) (argsL := [(.ref x2)]) (rest := [(.int 1), (.ref b24)]) (lenOf pd_11 rfl) rfl own_le0 (hb hby d36_19) (fun _ _ => ⟨rfl, e39, (by decide : 1 + 0 ≤ _), (by decide : 3 + 0 ≤ _)⟩)
  dsimp only [Pt.U, Pt.locs, Pt.cells, Pt.slots] at X50 l50 y50 z50 st50 hQ50
  subst l50 y50 z50
  obtain ⟨rfl, Nq50, eq50⟩ := hQ50
  have N51 := Fr.app N40 Nq50
  obtain ⟨c52, Ar52, q52, S52, N52, H52, G52⟩ := id V39
  have hi52 : ¬ ((1 : Int32) < 0 ∨ c52.slots.size ≤ ((1 : Int32)).toNatClampNeg) := inb_of S52 ⟨by decide, by decide⟩
  have f53 := ((G2.ext E24).wr W39)
  obtain ⟨T54, h54, X54, e54, W54, st54⟩ := stR X50 hx hZ eq50 Ar52 (j := (1 : Int32)) hi52 rfl (Sto.ofV Ar52 q52 O_24 (Ins.of_exa f53 (ox hw 212 rfl))) (g := (mkF m 22 #[vR b, vR b24, vI 1] [(.ref x2), (.int 1), (.ref b24)])) rfl rfl (hb hby d36_22)
  have V54 : Arv Z h54 b24 k24 (.object sk14) (3 : Int32) [(.ref x1), (.ref x2), .null] .null := Arv.set Ar52 q52 S52 N52 H52 G52 rfl W54 1 rfl (Nat.le_of_ble_eq_true rfl)
  have N55 := Fr.snoc X54 N51 gg25
  have O56 := O41.wr W54 gg25
  have K57 := K42.wr W54 (Or.inr sz26)
  have f58 := (f44.other W54 ne43)
  have q60 := fun t (kt : Go p e below T54 (mkF m 10 #[vR b, vR b24, vI 2] [(.ref b), (.int 2)]) t) => q49 t (st50 t (st54 t (by
    show Go _ _ _ _ (mkF m 23 #[vR b, vR b24, vI 1] []) _
    refine XS.iinc X54.here hx rfl (hb hby d36_23) rfl (l' := #[vR b, vR b24, vI 2]) rfl ?_
    show Go _ _ _ _ (mkF m 26 #[vR b, vR b24, vI 2] []) _
    refine XS.goto X54.here hx rfl (pc0 := 26) (pc' := 8) rfl (hb hby d36_26) (by decide) (by decide) ?_
    show Go _ _ _ _ (mkF m 8 _ []) _
    refine XS.iloadN X54.here hx rfl (hb hby d36_8) rfl ?_
    show Go _ _ _ _ (mkF m 9 _ [(.int 2)]) _
    refine XS.aloadN X54.here hx rfl (hb hby d36_9) rfl rfl ?_
    exact kt)))
  obtain ⟨c59, Ar59, -, S59, N59, -, -⟩ := id f58
  have q62 := fun t (kt : Go p e below T54 (mkF m 18 #[vR b, vR b24, vI 2] [(.int 2), (.ref b), (.int 2), (.ref b24)]) t) => q60 t (by
    show Go _ _ _ _ (mkF m 10 #[vR b, vR b24, vI 2] [(.ref b), (.int 2)]) _
    refine X54.arraylength hx (by rw [e54]; exact Ar59.1) (State.isArrayOf_alike hZ.alike Ar59.2.1) (g := (mkF m 10 #[vR b, vR b24, vI 2] [(.ref b), (.int 2)])) rfl rfl (hb hby d36_10) _ ?_
    rw [len_of S59 N59]
    show Go _ _ _ _ (mkF m 11 _ [(.int 3), (.int 2)]) _
    refine XS.icmpNo X54.here hx rfl (hb hby d36_11) rfl (tlt (by decide : (2 : Int32) < (3 : Int32))).2.1 ?_
    show Go _ _ _ _ (mkF m 14 _ []) _
    refine XS.aloadN X54.here hx rfl (hb hby d36_14) rfl rfl ?_
    show Go _ _ _ _ (mkF m 15 _ [(.ref b24)]) _
    refine XS.iloadN X54.here hx rfl (hb hby d36_15) rfl ?_
    show Go _ _ _ _ (mkF m 16 _ [(.int 2), (.ref b24)]) _
    refine XS.aloadN X54.here hx rfl (hb hby d36_16) rfl rfl ?_
    show Go _ _ _ _ (mkF m 17 _ [(.ref b), (.int 2), (.ref b24)]) _
    refine XS.iloadN X54.here hx rfl (hb hby d36_17) rfl ?_
    exact kt)
  obtain ⟨c61, Ar61, -, S61, N61, H61, -⟩ := id f58
  have q63 := fun t (kt : Go p e below T54 (mkF m 19 #[vR b, vR b24, vI 2] [(.ref x3), (.int 2), (.ref b24)]) t) => q62 t (by
    show Go _ _ _ _ (mkF m 18 #[vR b, vR b24, vI 2] [(.int 2), (.ref b), (.int 2), (.ref b24)]) _
    refine X54.aaload hx (j := (2 : Int32)) (v := (.ref x3)) (by rw [e54]; exact Ar61.1) (State.isArrayOf_alike hZ.alike Ar61.2.1) rfl Ar61.2.2 (inb_of S61 ⟨by decide, by decide⟩) (Has.at H61 (inb_of S61 ⟨by decide, by decide⟩) rfl) (g := (mkF m 18 #[vR b, vR b24, vI 2] [(.int 2), (.ref b), (.int 2), (.ref b24)])) rfl rfl (hb hby d36_18) _ ?_
    exact kt)
  obtain ⟨_, _, ⟨T64, L64, k64, n64⟩, -, X64, ⟨_, hQ64, l64, y64, z64⟩, st64⟩ := Jvm.LawKit.callS X54 hx (y := ym19) hown (ow hZ hw 270 rfl) (ow hZ hw 271 rfl) (ow hZ hw 272 rfl) (ow hZ hw 273 rfl) (by decide) (backOf (W := 2) (rm37 l Z a0 hw [] cx x3 h54 n0 O56 ) hZ (ox hw 273 rfl) (ox hw 272 rfl) (by decide) (by decide)) (g := (mkF m 19 #[vR b, vR b24, vI 2] [(.ref x3), (.int 2), (.ref b24)])) rfl (by rw [hml]; rfl) (argsL := [(.ref x3)]) (rest := [(.int 2), (.ref b24)]) (lenOf pd_11 rfl) rfl own_le0 (hb hby d36_19) (fun _ _ => ⟨rfl, e54, (by decide : 1 + 0 ≤ _), (by decide : 3 + 0 ≤ _)⟩)
  dsimp only [Pt.U, Pt.locs, Pt.cells, Pt.slots] at X64 l64 y64 z64 st64 hQ64
  subst l64 y64 z64
  obtain ⟨rfl, Nq64, eq64⟩ := hQ64
  have N65 := Fr.app N55 Nq64
  obtain ⟨c66, Ar66, q66, S66, N66, H66, G66⟩ := id V54
  have hi66 : ¬ ((2 : Int32) < 0 ∨ c66.slots.size ≤ ((2 : Int32)).toNatClampNeg) := inb_of S66 ⟨by decide, by decide⟩
  have f67 := (((G3.ext E24).wr W39).wr W54)
  obtain ⟨T68, h68, X68, e68, W68, st68⟩ := stR X64 hx hZ eq64 Ar66 (j := (2 : Int32)) hi66 rfl (Sto.ofV Ar66 q66 O_24 (Ins.of_exa f67 (ox hw 212 rfl))) (g := (mkF m 22 #[vR b, vR b24, vI 2] [(.ref x3), (.int 2), (.ref b24)])) rfl rfl (hb hby d36_22)
  have V68 : Arv Z h68 b24 k24 (.object sk14) (3 : Int32) [(.ref x1), (.ref x2), (.ref x3)] .null := Arv.set Ar66 q66 S66 N66 H66 G66 rfl W68 2 rfl (Nat.le_of_ble_eq_true rfl)
  have N69 := Fr.snoc X68 N65 gg25
  have O70 := O56.wr W68 gg25
  have K71 := K57.wr W68 (Or.inr sz26)
  have f72 := (f58.other W68 ne43)
  have q74 := fun t (kt : Go p e below T68 (mkF m 10 #[vR b, vR b24, vI 3] [(.ref b), (.int 3)]) t) => q63 t (st64 t (st68 t (by
    show Go _ _ _ _ (mkF m 23 #[vR b, vR b24, vI 2] []) _
    refine XS.iinc X68.here hx rfl (hb hby d36_23) rfl (l' := #[vR b, vR b24, vI 3]) rfl ?_
    show Go _ _ _ _ (mkF m 26 #[vR b, vR b24, vI 3] []) _
    refine XS.goto X68.here hx rfl (pc0 := 26) (pc' := 8) rfl (hb hby d36_26) (by decide) (by decide) ?_
    show Go _ _ _ _ (mkF m 8 _ []) _
    refine XS.iloadN X68.here hx rfl (hb hby d36_8) rfl ?_
    show Go _ _ _ _ (mkF m 9 _ [(.int 3)]) _
    refine XS.aloadN X68.here hx rfl (hb hby d36_9) rfl rfl ?_
    exact kt)))
  obtain ⟨c73, Ar73, -, S73, N73, -, -⟩ := id f72
  have q75 := fun t (kt : Go p e below T68 (mkF m 29 #[vR b, vR b24, vI 3] []) t) => q74 t (by
    show Go _ _ _ _ (mkF m 10 #[vR b, vR b24, vI 3] [(.ref b), (.int 3)]) _
    refine X68.arraylength hx (by rw [e68]; exact Ar73.1) (State.isArrayOf_alike hZ.alike Ar73.2.1) (g := (mkF m 10 #[vR b, vR b24, vI 3] [(.ref b), (.int 3)])) rfl rfl (hb hby d36_10) _ ?_
    rw [len_of S73 N73]
    show Go _ _ _ _ (mkF m 11 _ [(.int 3), (.int 3)]) _
    refine XS.icmpYes X68.here hx rfl (pc0 := 11) (pc' := 29) rfl (hb hby d36_11) rfl (flt (by decide : ¬ ((3 : Int32) < (3 : Int32)))).2.1 (by decide) (by decide) ?_
    exact kt)
  obtain ⟨T76, h76, X76, e76, E76, A76, D76, U76, st76⟩ := newO X68 hx hZ hown (ox hw 95 rfl) (ox hw 274 rfl) (ox hw 138 rfl) e68 (g := (mkF m 29 #[vR b, vR b24, vI 3] [])) rfl (hb hby d36_29) (by decide) (by decide)
  obtain ⟨b76, g76⟩ : ∃ z, z = h68.size := ⟨_, rfl⟩
  rw [← g76] at A76 D76 st76
  have gg77 : n0 ≤ b76 := Nat.le_trans (O70.1 ▸ O70.2.1) (Nat.le_of_eq g76.symm)
  have sz78 : h0.size ≤ b76 := Nat.le_trans K71.1 (Nat.le_of_eq g76.symm)
  have O79 := O70.ext E76
  have K80 := K71.ext E76
  have F76_elements : Fld Z h76 b76 sk21 "elements" sk6 .null := D76 (Or.inr (ox hw 141 rfl)) (ty := (.array (.object sk14))) (by decide)
  have F76_allowNulls : Fld Z h76 b76 sk21 "allowNulls" "Z" (.int 0) := D76 (Or.inr (ox hw 293 rfl)) (ty := .boolean) (by decide)
  have q81 := fun t (kt : Go p e below T76 (mkF m 35 #[vR b, vR b24, vI 3] [(.int 0), (.ref b24), (.ref b76), (.ref b76)]) t) => q75 t (st76 t (by
    show Go _ _ _ _ (mkF m 32 #[vR b, vR b24, vI 3] [(.ref b76)]) _
    refine XS.dup X76.here hx rfl (hb hby d36_32) rfl rfl ?_
    show Go _ _ _ _ (mkF m 33 _ [(.ref b76), (.ref b76)]) _
    refine XS.aloadN X76.here hx rfl (hb hby d36_33) rfl rfl ?_
    show Go _ _ _ _ (mkF m 34 _ [(.ref b24), (.ref b76), (.ref b76)]) _
    refine XS.iconst X76.here hx rfl (hb hby d36_34) ?_
    exact kt))
  obtain ⟨_, _, ⟨T82, L82, k82, n82⟩, -, X82, ⟨_, hQ82, l82, y82, z82⟩, st82⟩ := X76.specialBackNest hx (y := ym22) rfl hown (mvMN hZ (ox hw 275 rfl)) (ow hZ hw 276 rfl) (ow hZ hw 278 rfl) (by decide) (backOf (W := 1) (rm38 l Z a0 hw [] cx b76 b24 h76 n0 O79 A76 F76_elements F76_allowNulls gg77) hZ (ox hw 278 rfl) (ox hw 138 rfl) (by decide) (by decide)) (g := (mkF m 35 #[vR b, vR b24, vI 3] [(.int 0), (.ref b24), (.ref b76), (.ref b76)])) rfl (by rw [hml]; rfl) (Steps.refl _) (a := b76) (argsL := [(.ref b24), (.int 0)]) (rest := [(.ref b76)]) (lenOf pd_19 rfl) rfl own_le0 (hb hby d36_35) (fun _ _ => ⟨rfl, e76, (by decide : 2 + 0 ≤ _), (by decide : 5 + 0 ≤ _)⟩)
  dsimp only [Pt.U, Pt.locs, Pt.cells, Pt.slots] at X82 l82 y82 z82 st82 hQ82
  subst l82 y82 z82
  obtain ⟨rfl, Nq82, Kq82, fq82_0⟩ := hQ82
  have N83 := Fr.app N69 Nq82
  have O84 := O79.keep Kq82 (allS gg77 all0)
  have K85 := K80.trans Kq82 (allS (Or.inr sz78) all0)
  have q86 := fun t (kt : Go p e below T82 (mkF m 38 #[vR b, vR b24, vI 3] [(.ref b76)]) t) => q81 t (st82.trans kt)
  have f87 := (A76.keep Kq82)
  have ne88 : b24 ≠ b76 := (Nat.ne_of_lt (Nat.lt_of_lt_of_le (((Ex24.wr W39).wr W54).wr W68).lt (Nat.le_of_eq g76.symm)))
  have f89 := ((V68.ext E76).keep Kq82 (ninS ne88 nin0))
  exact ⟨some (.ref b76), T82, _, _, _, _, X82, by decide, by decide, nofun, q86, fun fs hr => retOut X82 hx hret rfl (o4 ⟨rfl, rfl, rfl⟩) (hb hby d36_38) hr, ⟨b76, b24, k24, rfl, N83, K85, sz78, sz26, f87, fq82_0, f89⟩⟩
theorem d35_59 : decode jdk_40_method_47_code 59 = .ok (.aload_n 0, 1) := by decide +kernel
theorem d35_60 : decode jdk_40_method_47_code 60 = .ok (.invokestatic 109, 3) := by decide +kernel
theorem d35_63 : decode jdk_40_method_47_code 63 = .ok (.areturn, 1) := by decide +kernel
def Q_rm35_3 (Z : State) (b : Addr) (x1 : Addr) (x2 : Addr) (x3 : Addr) (kb : ClassId) (cw : Nat → Nat) (z_cs : Int32) (h0 : Heap) (n0 : Nat) (v : Option Value) (h : Heap) (L : List Loc) : Prop := ∃ (r : Addr) (ra : Addr) (kr : ClassId), v = some (.ref r) ∧ Fr n0 L ∧ Keep h0 h [] ∧ h0.size ≤ r ∧ h0.size ≤ ra ∧ Exa Z h r sk21 ∧ Fld Z h r sk21 "elements" sk6 (.ref ra) ∧ Arv Z h ra kr (.object sk14) (3 : Int32) [(.ref x1), (.ref x2), (.ref x3)] .null
theorem rm35_3 (l : Launch) (Z : State) (a0 : Array Value) (hw : ∀ d ∈ tables_1, d.before a0 Z = true) (ws : List Jvm.Cond) {cw : Nat → Nat} {z_cs : Int32} (cx : Cx Z cw z_cs) (b : Addr) (x1 : Addr) (x2 : Addr) (x3 : Addr) (kb : ClassId) (h0 : Heap) (n0 : Nat) (O0 : Old Z n0 h0) (G0 : Arv Z h0 b kb (.object sk14) (3 : Int32) [(.ref x1), (.ref x2), (.ref x3)] .null) (G1 : Exa Z h0 x1 sk9) (G2 : Exa Z h0 x2 sk9) (G3 : Exa Z h0 x3 sk9) :
    OwnMet l ym29 (Jvm.Cond.code ym29 jdk_40_method_47_code 2 (some (.object sk23)) :: ws) (own_R 6 2 5 77) #[(.ref b)] Z h0 (Q_rm35_3 Z b x1 x2 x3 kb cw z_cs h0 n0) := by
  refine own_body (plainFor_of_name pn_35) hisR fun p e s m below meth c s₁ hx hby hml hown hnm hret hZ X0 e0 => ?_
  have N0 := Fr.nil n0
  have K0 : Keep h0 h0 [] := Keep.refl _ _
  have pre0 : ∀ t, Go p e below s₁ (mkF m 0 #[vR b, vU] []) t → Go p e below s₁ (entryFrame m #[(.ref b)] 2) t := fun t k => castTop (ef_35_R m b) k
  have q22 := fun t (kt : Go p e below s₁ (mkF m 1 #[vR b, vU] [(.ref b)]) t) => pre0 t (by
    show Go _ _ _ _ (mkF m 0 #[vR b, vU] []) _
    refine XS.aloadN X0.here hx rfl (hb hby d35_0) rfl rfl ?_
    exact kt)
  obtain ⟨c21, Ar21, -, S21, N21, -, -⟩ := id G0
  have q23 := fun t (kt : Go p e below s₁ (mkF m 60 #[vR b, vU] [(.ref b)]) t) => q22 t (by
    show Go _ _ _ _ (mkF m 1 #[vR b, vU] [(.ref b)]) _
    refine X0.arraylength hx (by rw [e0]; exact Ar21.1) (State.isArrayOf_alike hZ.alike Ar21.2.1) (g := (mkF m 1 #[vR b, vU] [(.ref b)])) rfl rfl (hb hby d35_1) _ ?_
    rw [len_of S21 N21]
    show Go _ _ _ _ (mkF m 2 _ [(.int 3)]) _
    refine XS.tswOut X0.here hx rfl (pc0 := 2) (pc' := 59) rfl (hb hby d35_2) rfl (by decide) (by decide) (by decide) ?_
    show Go _ _ _ _ (mkF m 59 _ []) _
    refine XS.aloadN X0.here hx rfl (hb hby d35_59) rfl rfl ?_
    exact kt)
  obtain ⟨_, _, ⟨T24, L24, k24, n24⟩, -, X24, ⟨_, hQ24, l24, y24, z24⟩, st24⟩ := Jvm.LawKit.callS X0 hx (y := ym34) hown (ow hZ hw 266 rfl) (ow hZ hw 267 rfl) (ow hZ hw 88 rfl) (ow hZ hw 268 rfl) (by decide) (backOf (W := 0) (rm36 l Z a0 hw [] cx b x1 x2 x3 kb h0 n0 O0 G0 G1 G2 G3) hZ (ox hw 268 rfl) (ox hw 88 rfl) (by decide) (by decide)) (g := (mkF m 60 #[vR b, vU] [(.ref b)])) rfl (by rw [hml]; rfl) (argsL := [(.ref b)]) (rest := []) (lenOf pd_16 rfl) rfl own_le0 (hb hby d35_60) (fun _ _ => ⟨rfl, e0, (by decide : 0 + 2 ≤ _), (by decide : 0 + 5 ≤ _)⟩)
  dsimp only [Pt.U, Pt.locs, Pt.cells, Pt.slots] at X24 l24 y24 z24 st24 hQ24
  subst l24 y24 z24
  obtain ⟨r_24, ra_24, kr_24, rfl, Nq24, Kq24, fr24_0, fr24_1, fq24_0, fq24_1, fq24_2⟩ := hQ24
  have N25 := Fr.app N0 Nq24
  have gg26 : n0 ≤ r_24 := Nat.le_trans (O0.1 ▸ O0.2.1) fr24_0
  have sz27 : h0.size ≤ r_24 := Nat.le_trans K0.1 fr24_0
  have gg28 : n0 ≤ ra_24 := Nat.le_trans (O0.1 ▸ O0.2.1) fr24_1
  have sz29 : h0.size ≤ ra_24 := Nat.le_trans K0.1 fr24_1
  have O30 := O0.keep Kq24 all0
  have K31 := K0.trans Kq24 all0
  have q32 := fun t (kt : Go p e below T24 (mkF m 63 #[vR b, vU] [(.ref r_24)]) t) => q23 t (st24 t kt)
  exact ⟨some (.ref r_24), T24, _, _, _, _, X24, by decide, by decide, nofun, q32, fun fs hr => retOut X24 hx hret rfl (o4 ⟨rfl, rfl, rfl⟩) (hb hby d35_63) hr, ⟨r_24, ra_24, kr_24, rfl, N25, K31, sz27, sz29, fq24_0, fq24_1, fq24_2⟩⟩
def Q_rm12_3 (Z : State) (a1 : Addr) (b : Addr) (x1 : Addr) (x2 : Addr) (x3 : Addr) (kb : ClassId) (cw : Nat → Nat) (z_cs : Int32) (h0 : Heap) (n0 : Nat) (v : Option Value) (h : Heap) (L : List Loc) : Prop := ∃ (r : Addr) (ra : Addr) (kr : ClassId), v = some (.ref r) ∧ Fr n0 L ∧ Keep h0 h [] ∧ h0.size ≤ r ∧ h0.size ≤ ra ∧ Exa Z h r sk21 ∧ Fld Z h r sk21 "elements" sk6 (.ref ra) ∧ Arv Z h ra kr (.object sk14) (3 : Int32) [(.ref x1), (.ref x2), (.ref x3)] .null
theorem rm12_3 (l : Launch) (Z : State) (a0 : Array Value) (hw : ∀ d ∈ tables_1, d.before a0 Z = true) (ws : List Jvm.Cond) {cw : Nat → Nat} {z_cs : Int32} (cx : Cx Z cw z_cs) (a1 : Addr) (b : Addr) (x1 : Addr) (x2 : Addr) (x3 : Addr) (kb : ClassId) (h0 : Heap) (n0 : Nat) (O0 : Old Z n0 h0) (G0 : Exa Z h0 a1 sk18) (G1 : Fld Z h0 a1 sk18 sk12 sk6 (.ref b)) (G2 : Fld Z h0 a1 sk18 "size" "I" (.int 3)) (G3 : Arv Z h0 b kb (.object sk14) (10 : Int32) [(.ref x1), (.ref x2), (.ref x3), .null, .null, .null, .null, .null, .null, .null] .null) (G4 : Exa Z h0 b sk6) (G5 : Exa Z h0 x1 sk9) (G6 : Exa Z h0 x2 sk9) (G7 : Exa Z h0 x3 sk9) :
    OwnMet l ym30 (Jvm.Cond.code ym30 jdk_56_method_3_code 2 (some (.object sk23)) :: ws) (own_R 7 3 8 90) #[(.ref a1)] Z h0 (Q_rm12_3 Z a1 b x1 x2 x3 kb cw z_cs h0 n0) := by
  refine own_body (plainFor_of_name pn_12) hisR fun p e s m below meth c s₁ hx hby hml hown hnm hret hZ X0 e0 => ?_
  have N0 := Fr.nil n0
  have K0 : Keep h0 h0 [] := Keep.refl _ _
  have pre0 : ∀ t, Go p e below s₁ (mkF m 0 #[vR a1, vU] []) t → Go p e below s₁ (entryFrame m #[(.ref a1)] 2) t := fun t k => castTop (ef_12_R m a1) k
  have q21 := fun t (kt : Go p e below s₁ (mkF m 1 #[vR a1, vU] [(.ref a1)]) t) => pre0 t (by
    show Go _ _ _ _ (mkF m 0 #[vR a1, vU] []) _
    refine XS.aloadN X0.here hx rfl (hb hby d12_0) rfl rfl ?_
    exact kt)
  obtain ⟨T22, X22, e22, st22⟩ := instNo X0 hx hZ hown (ox hw 90 rfl) e0 G0 (own_NSno (ox hw 91 rfl) (ox hw 295 rfl) (NS.step (ox hw 91 rfl) (NS.step (ox hw 92 rfl) (NS.step (ox hw 93 rfl) (own_NSroot (ox hw 94 rfl) (ox hw 295 rfl) (by decide)) (by decide)) (by decide)) (by decide)) (by decide)) (g := (mkF m 1 #[vR a1, vU] [(.ref a1)])) rfl rfl (hb hby d12_1)
  have q23 := fun t (kt : Go p e below T22 (mkF m 8 #[vR a1, vU] [(.ref a1)]) t) => q21 t (st22 t (by
    show Go _ _ _ _ (mkF m 4 #[vR a1, vU] [(.int 0)]) _
    refine XS.ifNo X22.here hx rfl (hb hby d12_4) rfl ((if0 _ _).trans (teq (rfl : (0 : Int32) = (0 : Int32))).2) ?_
    show Go _ _ _ _ (mkF m 7 _ []) _
    refine XS.aloadN X22.here hx rfl (hb hby d12_7) rfl rfl ?_
    exact kt))
  obtain ⟨T24, X24, e24, st24⟩ := instNo X22 hx hZ hown (ox hw 95 rfl) e22 G0 (own_NSno (ox hw 91 rfl) (ox hw 274 rfl) (NS.step (ox hw 91 rfl) (NS.step (ox hw 92 rfl) (NS.step (ox hw 93 rfl) (own_NSroot (ox hw 94 rfl) (ox hw 274 rfl) (by decide)) (by decide)) (by decide)) (by decide)) (by decide)) (g := (mkF m 8 #[vR a1, vU] [(.ref a1)])) rfl rfl (hb hby d12_8)
  have q25 := fun t (kt : Go p e below T24 (mkF m 32 #[vR a1, vU] [(.ref a1)]) t) => q23 t (st24 t (by
    show Go _ _ _ _ (mkF m 11 #[vR a1, vU] [(.int 0)]) _
    refine XS.ifYes X24.here hx rfl (pc0 := 11) (pc' := 31) rfl (hb hby d12_11) rfl ((if0 _ _).trans (teq (rfl : (0 : Int32) = (0 : Int32))).1) (by decide) (by decide) ?_
    show Go _ _ _ _ (mkF m 31 _ []) _
    refine XS.aloadN X24.here hx rfl (hb hby d12_31) rfl rfl ?_
    exact kt))
  obtain ⟨cq27, kq27, q27a, q27b, q27c⟩ := isOf hZ e24 G0
  obtain ⟨_, _, ⟨T26, L26, k26, n26⟩, -, X26, ⟨_, hQ26, l26, y26, z26⟩, st26⟩ := X24.interfaceBack hx (xi := ym31) (y := ym17) hown (ow hZ hw 96 rfl) (ow hZ hw 97 rfl) (ow hZ hw 98 rfl) (ow hZ hw 99 rfl) (ow hZ hw 100 rfl) (ow hZ hw 101 rfl) (ow hZ hw 102 rfl) (ow hZ hw 103 rfl) (by decide) (backOf (W := 0) (rm13_3 l Z a0 hw [] cx a1 h0 n0 O0 G2) hZ (ox hw 104 rfl) (ox hw 53 rfl) (by decide) (by decide)) q27a q27b q27c (g := (mkF m 32 #[vR a1, vU] [(.ref a1)])) rfl (by rw [hml]; rfl) (Steps.refl _) (argsL := []) (rest := []) (lenOf pd_15 rfl) rfl own_le0 (hb hby d12_32) (fun _ _ => ⟨rfl, e24, (by decide : 0 + 0 ≤ _), (by decide : 0 + 0 ≤ _)⟩)
  dsimp only [Pt.U, Pt.locs, Pt.cells, Pt.slots] at X26 l26 y26 z26 st26 hQ26
  subst l26 y26 z26
  obtain ⟨rfl, Nq26, eq26⟩ := hQ26
  have N28 := Fr.app N0 Nq26
  have q29 := fun t (kt : Go p e below T26 (mkF m 45 #[vR a1, vU] [(.ref a1)]) t) => q25 t (st26.trans (by
    show Go _ _ _ _ (mkF m 37 #[vR a1, vU] [(.int 0)]) _
    refine XS.ifYes X26.here hx rfl (pc0 := 37) (pc' := 44) rfl (hb hby d12_37) rfl ((if0 _ _).trans (teq (rfl : (0 : Int32) = (0 : Int32))).1) (by decide) (by decide) ?_
    show Go _ _ _ _ (mkF m 44 _ []) _
    refine XS.aloadN X26.here hx rfl (hb hby d12_44) rfl rfl ?_
    exact kt))
  obtain ⟨cq31, kq31, q31a, q31b, q31c⟩ := isOf hZ eq26 G0
  obtain ⟨_, _, ⟨T30, L30, k30, n30⟩, -, X30, ⟨_, hQ30, l30, y30, z30⟩, st30⟩ := X26.interfaceBack hx (xi := ym32) (y := ym28) hown (ow hZ hw 233 rfl) (ow hZ hw 234 rfl) (ow hZ hw 235 rfl) (ow hZ hw 236 rfl) (ow hZ hw 237 rfl) (ow hZ hw 238 rfl) (ow hZ hw 239 rfl) (ow hZ hw 103 rfl) (by decide) (backOf (W := 0) (rm31_3 l Z a0 hw [] cx a1 b x1 x2 x3 kb h0 n0 O0 G1 G2 G3 G4 G5 G6 G7) hZ (ox hw 240 rfl) (ox hw 53 rfl) (by decide) (by decide)) q31a q31b q31c (g := (mkF m 45 #[vR a1, vU] [(.ref a1)])) rfl (by rw [hml]; rfl) (Steps.refl _) (argsL := []) (rest := []) (lenOf pd_6 rfl) rfl own_le0 (hb hby d12_45) (fun _ _ => ⟨rfl, eq26, (by decide : 0 + 1 ≤ _), (by decide : 0 + 3 ≤ _)⟩)
  dsimp only [Pt.U, Pt.locs, Pt.cells, Pt.slots] at X30 l30 y30 z30 st30 hQ30
  subst l30 y30 z30
  obtain ⟨r_30, kr_30, rfl, Nq30, Kq30, fr30_0, fq30_0, fq30_1, pq30_0⟩ := hQ30
  have N32 := Fr.app N28 Nq30
  have gg33 : n0 ≤ r_30 := Nat.le_trans (O0.1 ▸ O0.2.1) fr30_0
  have sz34 : h0.size ≤ r_30 := Nat.le_trans K0.1 fr30_0
  have O35 := O0.keep Kq30 all0
  have K36 := K0.trans Kq30 all0
  have f37 := (G5.keep Kq30)
  have f38 := (G6.keep Kq30)
  have f39 := (G7.keep Kq30)
  obtain ⟨_, _, ⟨T40, L40, k40, n40⟩, -, X40, ⟨_, hQ40, l40, y40, z40⟩, st40⟩ := Jvm.LawKit.callS X30 hx (y := ym29) hown (ow hZ hw 263 rfl) (ow hZ hw 264 rfl) (ow hZ hw 84 rfl) (ow hZ hw 265 rfl) (by decide) (backOf (W := 0) (rm35_3 l Z a0 hw [] cx r_30 x1 x2 x3 kr_30 T30.heap n0 O35 fq30_0 f37 f38 f39) hZ (ox hw 265 rfl) (ox hw 84 rfl) (by decide) (by decide)) (g := (mkF m 50 #[vR a1, vU] [(.ref r_30)])) rfl (by rw [hml]; rfl) (argsL := [(.ref r_30)]) (rest := []) (lenOf pd_16 rfl) rfl own_le0 (hb hby d12_50) (fun _ _ => ⟨rfl, rfl, (by decide : 1 + 2 ≤ _), (by decide : 3 + 5 ≤ _)⟩)
  dsimp only [Pt.U, Pt.locs, Pt.cells, Pt.slots] at X40 l40 y40 z40 st40 hQ40
  subst l40 y40 z40
  obtain ⟨r_40, ra_40, kr_40, rfl, Nq40, Kq40, fr40_0, fr40_1, fq40_0, fq40_1, fq40_2⟩ := hQ40
  have N41 := Fr.app N32 Nq40
  have gg42 : n0 ≤ r_40 := Nat.le_trans (O35.1 ▸ O35.2.1) fr40_0
  have sz43 : h0.size ≤ r_40 := Nat.le_trans K36.1 fr40_0
  have gg44 : n0 ≤ ra_40 := Nat.le_trans (O35.1 ▸ O35.2.1) fr40_1
  have sz45 : h0.size ≤ ra_40 := Nat.le_trans K36.1 fr40_1
  have O46 := O35.keep Kq40 all0
  have K47 := K36.trans Kq40 all0
  have q48 := fun t (kt : Go p e below T40 (mkF m 53 #[vR a1, vU] [(.ref r_40)]) t) => q29 t (st30.trans (st40 t kt))
  exact ⟨some (.ref r_40), T40, _, _, _, _, X40, by decide, by decide, nofun, q48, fun fs hr => retOut X40 hx hret rfl (o4 ⟨rfl, rfl, rfl⟩) (hb hby d12_53) hr, ⟨r_40, ra_40, kr_40, rfl, N41, K47, sz43, sz45, fq40_0, fq40_1, fq40_2⟩⟩
def Q_rm11_3 (Z : State) (a1 : Addr) (b : Addr) (x1 : Addr) (x2 : Addr) (x3 : Addr) (kb : ClassId) (cw : Nat → Nat) (z_cs : Int32) (h0 : Heap) (n0 : Nat) (v : Option Value) (h : Heap) (L : List Loc) : Prop := ∃ (r : Addr) (ra : Addr) (kr : ClassId), v = some (.ref r) ∧ Fr n0 L ∧ Keep h0 h [] ∧ h0.size ≤ r ∧ h0.size ≤ ra ∧ Exa Z h r sk21 ∧ Fld Z h r sk21 "elements" sk6 (.ref ra) ∧ Arv Z h ra kr (.object sk14) (3 : Int32) [(.ref x1), (.ref x2), (.ref x3)] .null
theorem rm11_3 (l : Launch) (Z : State) (a0 : Array Value) (hw : ∀ d ∈ tables_1, d.before a0 Z = true) (ws : List Jvm.Cond) {cw : Nat → Nat} {z_cs : Int32} (cx : Cx Z cw z_cs) (a1 : Addr) (b : Addr) (x1 : Addr) (x2 : Addr) (x3 : Addr) (kb : ClassId) (h0 : Heap) (n0 : Nat) (O0 : Old Z n0 h0) (G0 : Exa Z h0 a1 sk18) (G1 : Fld Z h0 a1 sk18 sk12 sk6 (.ref b)) (G2 : Fld Z h0 a1 sk18 "size" "I" (.int 3)) (G3 : Arv Z h0 b kb (.object sk14) (10 : Int32) [(.ref x1), (.ref x2), (.ref x3), .null, .null, .null, .null, .null, .null, .null] .null) (G4 : Exa Z h0 b sk6) (G5 : Exa Z h0 x1 sk9) (G6 : Exa Z h0 x2 sk9) (G7 : Exa Z h0 x3 sk9) :
    OwnMet l ym33 (Jvm.Cond.code ym33 jdk_40_method_48_code 1 (some (.object sk23)) :: ws) (own_R 8 3 8 103) #[(.ref a1)] Z h0 (Q_rm11_3 Z a1 b x1 x2 x3 kb cw z_cs h0 n0) := by
  refine own_body (plainFor_of_name pn_11) hisR fun p e s m below meth c s₁ hx hby hml hown hnm hret hZ X0 e0 => ?_
  have N0 := Fr.nil n0
  have K0 : Keep h0 h0 [] := Keep.refl _ _
  have pre0 : ∀ t, Go p e below s₁ (mkF m 0 #[vR a1] []) t → Go p e below s₁ (entryFrame m #[(.ref a1)] 1) t := fun t k => castTop (ef_11_R m a1) k
  have q21 := fun t (kt : Go p e below s₁ (mkF m 1 #[vR a1] [(.ref a1)]) t) => pre0 t (by
    show Go _ _ _ _ (mkF m 0 #[vR a1] []) _
    refine XS.aloadN X0.here hx rfl (hb hby d11_0) rfl rfl ?_
    exact kt)
  obtain ⟨_, _, ⟨T22, L22, k22, n22⟩, -, X22, ⟨_, hQ22, l22, y22, z22⟩, st22⟩ := Jvm.LawKit.callS X0 hx (y := ym30) hown (ow hZ hw 86 rfl) (ow hZ hw 87 rfl) (ow hZ hw 88 rfl) (ow hZ hw 89 rfl) (by decide) (backOf (W := 0) (rm12_3 l Z a0 hw [] cx a1 b x1 x2 x3 kb h0 n0 O0 G0 G1 G2 G3 G4 G5 G6 G7) hZ (ox hw 89 rfl) (ox hw 88 rfl) (by decide) (by decide)) (g := (mkF m 1 #[vR a1] [(.ref a1)])) rfl (by rw [hml]; rfl) (argsL := [(.ref a1)]) (rest := []) (lenOf pd_17 rfl) rfl own_le0 (hb hby d11_1) (fun _ _ => ⟨rfl, e0, (by decide : 0 + 3 ≤ _), (by decide : 0 + 8 ≤ _)⟩)
  dsimp only [Pt.U, Pt.locs, Pt.cells, Pt.slots] at X22 l22 y22 z22 st22 hQ22
  subst l22 y22 z22
  obtain ⟨r_22, ra_22, kr_22, rfl, Nq22, Kq22, fr22_0, fr22_1, fq22_0, fq22_1, fq22_2⟩ := hQ22
  have N23 := Fr.app N0 Nq22
  have gg24 : n0 ≤ r_22 := Nat.le_trans (O0.1 ▸ O0.2.1) fr22_0
  have sz25 : h0.size ≤ r_22 := Nat.le_trans K0.1 fr22_0
  have gg26 : n0 ≤ ra_22 := Nat.le_trans (O0.1 ▸ O0.2.1) fr22_1
  have sz27 : h0.size ≤ ra_22 := Nat.le_trans K0.1 fr22_1
  have O28 := O0.keep Kq22 all0
  have K29 := K0.trans Kq22 all0
  have q30 := fun t (kt : Go p e below T22 (mkF m 4 #[vR a1] [(.ref r_22)]) t) => q21 t (st22 t kt)
  exact ⟨some (.ref r_22), T22, _, _, _, _, X22, by decide, by decide, nofun, q30, fun fs hr => retOut X22 hx hret rfl (o4 ⟨rfl, rfl, rfl⟩) (hb hby d11_4) hr, ⟨r_22, ra_22, kr_22, rfl, N23, K29, sz25, sz27, fq22_0, fq22_1, fq22_2⟩⟩
theorem d12_40 : decode jdk_56_method_3_code 40 = .ok (.invokestatic 26, 3) := by decide +kernel
theorem pd_20 : parseMethodDescriptor "()Ljava/util/List;" = some ⟨[], some (.object "java/util/List")⟩ := by decide +kernel
theorem d12_43 : decode jdk_56_method_3_code 43 = .ok (.areturn, 1) := by decide +kernel
def Q_rm12_0 (Z : State) (a1 : Addr) (cw : Nat → Nat) (z_cs : Int32) (h0 : Heap) (n0 : Nat) (v : Option Value) (h : Heap) (L : List Loc) : Prop := v = some (.ref (cw 15)) ∧ Fr n0 L ∧ h = h0
theorem rm12_0 (l : Launch) (Z : State) (a0 : Array Value) (hw : ∀ d ∈ tables_1, d.before a0 Z = true) (ws : List Jvm.Cond) {cw : Nat → Nat} {z_cs : Int32} (cx : Cx Z cw z_cs) (a1 : Addr) (h0 : Heap) (n0 : Nat) (O0 : Old Z n0 h0) (G0 : Exa Z h0 a1 sk18) (G1 : Fld Z h0 a1 sk18 "size" "I" (.int 0)) :
    OwnMet l ym30 (Jvm.Cond.code ym30 jdk_56_method_3_code 2 (some (.object sk23)) :: ws) (own_R 1 0 0 12) #[(.ref a1)] Z h0 (Q_rm12_0 Z a1 cw z_cs h0 n0) := by
  refine own_body (plainFor_of_name pn_12) hisR fun p e s m below meth c s₁ hx hby hml hown hnm hret hZ X0 e0 => ?_
  have N0 := Fr.nil n0
  have pre0 : ∀ t, Go p e below s₁ (mkF m 0 #[vR a1, vU] []) t → Go p e below s₁ (entryFrame m #[(.ref a1)] 2) t := fun t k => castTop (ef_12_R m a1) k
  have q21 := fun t (kt : Go p e below s₁ (mkF m 1 #[vR a1, vU] [(.ref a1)]) t) => pre0 t (by
    show Go _ _ _ _ (mkF m 0 #[vR a1, vU] []) _
    refine XS.aloadN X0.here hx rfl (hb hby d12_0) rfl rfl ?_
    exact kt)
  obtain ⟨T22, X22, e22, st22⟩ := instNo X0 hx hZ hown (ox hw 90 rfl) e0 G0 (own_NSno (ox hw 91 rfl) (ox hw 295 rfl) (NS.step (ox hw 91 rfl) (NS.step (ox hw 92 rfl) (NS.step (ox hw 93 rfl) (own_NSroot (ox hw 94 rfl) (ox hw 295 rfl) (by decide)) (by decide)) (by decide)) (by decide)) (by decide)) (g := (mkF m 1 #[vR a1, vU] [(.ref a1)])) rfl rfl (hb hby d12_1)
  have q23 := fun t (kt : Go p e below T22 (mkF m 8 #[vR a1, vU] [(.ref a1)]) t) => q21 t (st22 t (by
    show Go _ _ _ _ (mkF m 4 #[vR a1, vU] [(.int 0)]) _
    refine XS.ifNo X22.here hx rfl (hb hby d12_4) rfl ((if0 _ _).trans (teq (rfl : (0 : Int32) = (0 : Int32))).2) ?_
    show Go _ _ _ _ (mkF m 7 _ []) _
    refine XS.aloadN X22.here hx rfl (hb hby d12_7) rfl rfl ?_
    exact kt))
  obtain ⟨T24, X24, e24, st24⟩ := instNo X22 hx hZ hown (ox hw 95 rfl) e22 G0 (own_NSno (ox hw 91 rfl) (ox hw 274 rfl) (NS.step (ox hw 91 rfl) (NS.step (ox hw 92 rfl) (NS.step (ox hw 93 rfl) (own_NSroot (ox hw 94 rfl) (ox hw 274 rfl) (by decide)) (by decide)) (by decide)) (by decide)) (by decide)) (g := (mkF m 8 #[vR a1, vU] [(.ref a1)])) rfl rfl (hb hby d12_8)
  have q25 := fun t (kt : Go p e below T24 (mkF m 32 #[vR a1, vU] [(.ref a1)]) t) => q23 t (st24 t (by
    show Go _ _ _ _ (mkF m 11 #[vR a1, vU] [(.int 0)]) _
    refine XS.ifYes X24.here hx rfl (pc0 := 11) (pc' := 31) rfl (hb hby d12_11) rfl ((if0 _ _).trans (teq (rfl : (0 : Int32) = (0 : Int32))).1) (by decide) (by decide) ?_
    show Go _ _ _ _ (mkF m 31 _ []) _
    refine XS.aloadN X24.here hx rfl (hb hby d12_31) rfl rfl ?_
    exact kt))
  obtain ⟨cq27, kq27, q27a, q27b, q27c⟩ := isOf hZ e24 G0
  obtain ⟨_, _, ⟨T26, L26, k26, n26⟩, -, X26, ⟨_, hQ26, l26, y26, z26⟩, st26⟩ := X24.interfaceBack hx (xi := ym31) (y := ym17) hown (ow hZ hw 96 rfl) (ow hZ hw 97 rfl) (ow hZ hw 98 rfl) (ow hZ hw 99 rfl) (ow hZ hw 100 rfl) (ow hZ hw 101 rfl) (ow hZ hw 102 rfl) (ow hZ hw 103 rfl) (by decide) (backOf (W := 0) (rm13_0 l Z a0 hw [] cx a1 h0 n0 O0 G1) hZ (ox hw 104 rfl) (ox hw 53 rfl) (by decide) (by decide)) q27a q27b q27c (g := (mkF m 32 #[vR a1, vU] [(.ref a1)])) rfl (by rw [hml]; rfl) (Steps.refl _) (argsL := []) (rest := []) (lenOf pd_15 rfl) rfl own_le0 (hb hby d12_32) (fun _ _ => ⟨rfl, e24, (by decide : 0 + 0 ≤ _), (by decide : 0 + 0 ≤ _)⟩)
  dsimp only [Pt.U, Pt.locs, Pt.cells, Pt.slots] at X26 l26 y26 z26 st26 hQ26
  subst l26 y26 z26
  obtain ⟨rfl, Nq26, eq26⟩ := hQ26
  have N28 := Fr.app N0 Nq26
  have q29 := fun t (kt : Go p e below T26 (mkF m 40 #[vR a1, vU] []) t) => q25 t (st26.trans (by
    show Go _ _ _ _ (mkF m 37 #[vR a1, vU] [(.int 1)]) _
    refine XS.ifNo X26.here hx rfl (hb hby d12_37) rfl ((if0 _ _).trans (feq (by decide : ¬ ((1 : Int32) = (0 : Int32)))).1) ?_
    exact kt))
  obtain ⟨_, _, ⟨T30, L30, k30, n30⟩, -, X30, ⟨_, hQ30, l30, y30, z30⟩, st30⟩ := Jvm.LawKit.callS X26 hx (y := ym18) hown (ow hZ hw 107 rfl) (ow hZ hw 108 rfl) (ow hZ hw 84 rfl) (ow hZ hw 109 rfl) (by decide) (backOf (W := 0) (rm14 l Z a0 hw [] cx  h0 n0 O0 ) hZ (ox hw 109 rfl) (ox hw 84 rfl) (by decide) (by decide)) (g := (mkF m 40 #[vR a1, vU] [])) rfl (by rw [hml]; rfl) (argsL := []) (rest := []) (lenOf pd_20 rfl) rfl own_le0 (hb hby d12_40) (fun _ _ => ⟨rfl, eq26, (by decide : 0 + 0 ≤ _), (by decide : 0 + 0 ≤ _)⟩)
  dsimp only [Pt.U, Pt.locs, Pt.cells, Pt.slots] at X30 l30 y30 z30 st30 hQ30
  subst l30 y30 z30
  obtain ⟨rfl, Nq30, eq30⟩ := hQ30
  have N31 := Fr.app N28 Nq30
  have q32 := fun t (kt : Go p e below T30 (mkF m 43 #[vR a1, vU] [(.ref (cw 15))]) t) => q29 t (st30 t kt)
  exact ⟨some (.ref (cw 15)), T30, _, _, _, _, X30, by decide, by decide, nofun, q32, fun fs hr => retOut X30 hx hret rfl (o4 ⟨rfl, rfl, rfl⟩) (hb hby d12_43) hr, by rw [eq30]; exact ⟨rfl, N31, rfl⟩⟩
def Q_rm11_0 (Z : State) (a1 : Addr) (cw : Nat → Nat) (z_cs : Int32) (h0 : Heap) (n0 : Nat) (v : Option Value) (h : Heap) (L : List Loc) : Prop := v = some (.ref (cw 15)) ∧ Fr n0 L ∧ h = h0
theorem rm11_0 (l : Launch) (Z : State) (a0 : Array Value) (hw : ∀ d ∈ tables_1, d.before a0 Z = true) (ws : List Jvm.Cond) {cw : Nat → Nat} {z_cs : Int32} (cx : Cx Z cw z_cs) (a1 : Addr) (h0 : Heap) (n0 : Nat) (O0 : Old Z n0 h0) (G0 : Exa Z h0 a1 sk18) (G1 : Fld Z h0 a1 sk18 "size" "I" (.int 0)) :
    OwnMet l ym33 (Jvm.Cond.code ym33 jdk_40_method_48_code 1 (some (.object sk23)) :: ws) (own_R 2 0 0 25) #[(.ref a1)] Z h0 (Q_rm11_0 Z a1 cw z_cs h0 n0) := by
  refine own_body (plainFor_of_name pn_11) hisR fun p e s m below meth c s₁ hx hby hml hown hnm hret hZ X0 e0 => ?_
  have N0 := Fr.nil n0
  have pre0 : ∀ t, Go p e below s₁ (mkF m 0 #[vR a1] []) t → Go p e below s₁ (entryFrame m #[(.ref a1)] 1) t := fun t k => castTop (ef_11_R m a1) k
  have q21 := fun t (kt : Go p e below s₁ (mkF m 1 #[vR a1] [(.ref a1)]) t) => pre0 t (by
    show Go _ _ _ _ (mkF m 0 #[vR a1] []) _
    refine XS.aloadN X0.here hx rfl (hb hby d11_0) rfl rfl ?_
    exact kt)
  obtain ⟨_, _, ⟨T22, L22, k22, n22⟩, -, X22, ⟨_, hQ22, l22, y22, z22⟩, st22⟩ := Jvm.LawKit.callS X0 hx (y := ym30) hown (ow hZ hw 86 rfl) (ow hZ hw 87 rfl) (ow hZ hw 88 rfl) (ow hZ hw 89 rfl) (by decide) (backOf (W := 0) (rm12_0 l Z a0 hw [] cx a1 h0 n0 O0 G0 G1) hZ (ox hw 89 rfl) (ox hw 88 rfl) (by decide) (by decide)) (g := (mkF m 1 #[vR a1] [(.ref a1)])) rfl (by rw [hml]; rfl) (argsL := [(.ref a1)]) (rest := []) (lenOf pd_17 rfl) rfl own_le0 (hb hby d11_1) (fun _ _ => ⟨rfl, e0, (by decide : 0 + 0 ≤ _), (by decide : 0 + 0 ≤ _)⟩)
  dsimp only [Pt.U, Pt.locs, Pt.cells, Pt.slots] at X22 l22 y22 z22 st22 hQ22
  subst l22 y22 z22
  obtain ⟨rfl, Nq22, eq22⟩ := hQ22
  have N23 := Fr.app N0 Nq22
  have q24 := fun t (kt : Go p e below T22 (mkF m 4 #[vR a1] [(.ref (cw 15))]) t) => q21 t (st22 t kt)
  exact ⟨some (.ref (cw 15)), T22, _, _, _, _, X22, by decide, by decide, nofun, q24, fun fs hr => retOut X22 hx hret rfl (o4 ⟨rfl, rfl, rfl⟩) (hb hby d11_4) hr, by rw [eq22]; exact ⟨rfl, N23, rfl⟩⟩
theorem ef_10_RRR (m : MethodId) (x0 : Addr) (x1 : Addr) (x2 : Addr) : entryFrame m #[(.ref x0), (.ref x1), (.ref x2)] 3 = mkF m 0 #[.val (.ref x0), .val (.ref x1), .val (.ref x2)] [] := by first | (simp [entryFrame, mkF, argsToLocals, Value.category]; done) | rfl
theorem pn_10 : plainName "com/example/sherman/sherman/service/Verification" = true := by first | (simp [plainName, overriddenIn]; done) | decide +kernel
theorem d10_0 : decode prog_13_method_1_code 0 = .ok (.aload_n 0, 1) := by decide +kernel
theorem d10_1 : decode prog_13_method_1_code 1 = .ok (.invokespecial 1, 3) := by decide +kernel
theorem d10_4 : decode prog_13_method_1_code 4 = .ok (.aload_n 1, 1) := by decide +kernel
theorem d10_5 : decode prog_13_method_1_code 5 = .ok (.invokestatic 7, 3) := by decide +kernel
theorem d10_8 : decode prog_13_method_1_code 8 = .ok (.astore_n 1, 1) := by decide +kernel
theorem d10_9 : decode prog_13_method_1_code 9 = .ok (.aload_n 2, 1) := by decide +kernel
theorem d10_10 : decode prog_13_method_1_code 10 = .ok (.invokestatic 7, 3) := by decide +kernel
theorem d10_13 : decode prog_13_method_1_code 13 = .ok (.astore_n 2, 1) := by decide +kernel
theorem d10_14 : decode prog_13_method_1_code 14 = .ok (.aload_n 0, 1) := by decide +kernel
theorem d10_15 : decode prog_13_method_1_code 15 = .ok (.aload_n 1, 1) := by decide +kernel
theorem d10_16 : decode prog_13_method_1_code 16 = .ok (.putfield 13, 3) := by decide +kernel
theorem d10_19 : decode prog_13_method_1_code 19 = .ok (.aload_n 0, 1) := by decide +kernel
theorem d10_20 : decode prog_13_method_1_code 20 = .ok (.aload_n 2, 1) := by decide +kernel
theorem d10_21 : decode prog_13_method_1_code 21 = .ok (.putfield 19, 3) := by decide +kernel
theorem d10_24 : decode prog_13_method_1_code 24 = .ok (.return_, 1) := by decide +kernel
def Q_rm10_00 (Z : State) (a1 : Addr) (a2 : Addr) (a3 : Addr) (cw : Nat → Nat) (z_cs : Int32) (h0 : Heap) (n0 : Nat) (v : Option Value) (h : Heap) (L : List Loc) : Prop := v = none ∧ Fr n0 L ∧ Keep h0 h [a1] ∧ Fld Z h a1 sk8 "outcomes" sk5 (.ref (cw 15))
theorem rm10_00 (l : Launch) (Z : State) (a0 : Array Value) (hw : ∀ d ∈ tables_1, d.before a0 Z = true) (ws : List Jvm.Cond) {cw : Nat → Nat} {z_cs : Int32} (cx : Cx Z cw z_cs) (a1 : Addr) (a2 : Addr) (a3 : Addr) (h0 : Heap) (n0 : Nat) (O0 : Old Z n0 h0) (G0 : Exa Z h0 a1 sk8) (G1 : Fld Z h0 a1 sk8 "outcomes" sk5 .null) (G2 : Fld Z h0 a1 sk8 "notes" sk5 .null) (G3 : Exa Z h0 a2 sk18) (G4 : Fld Z h0 a2 sk18 "size" "I" (.int 0)) (G5 : Exa Z h0 a3 sk18) (G6 : Fld Z h0 a3 sk18 "size" "I" (.int 0)) (g_a1 : n0 ≤ a1) :
    OwnMet l ym35 (Jvm.Cond.code ym35 prog_13_method_1_code 3 none :: ws) (own_R 3 0 0 37) #[(.ref a1), (.ref a2), (.ref a3)] Z h0 (Q_rm10_00 Z a1 a2 a3 cw z_cs h0 n0) := by
  refine own_body (plainFor_of_name pn_10) hisR fun p e s m below meth c s₁ hx hby hml hown hnm hret hZ X0 e0 => ?_
  have N0 := Fr.nil n0
  have K0 : Keep h0 h0 [a1] := Keep.refl _ _
  have pre0 : ∀ t, Go p e below s₁ (mkF m 0 #[vR a1, vR a2, vR a3] []) t → Go p e below s₁ (entryFrame m #[(.ref a1), (.ref a2), (.ref a3)] 3) t := fun t k => castTop (ef_10_RRR m a1 a2 a3) k
  have q21 := fun t (kt : Go p e below s₁ (mkF m 1 #[vR a1, vR a2, vR a3] [(.ref a1)]) t) => pre0 t (by
    show Go _ _ _ _ (mkF m 0 #[vR a1, vR a2, vR a3] []) _
    refine XS.aloadN X0.here hx rfl (hb hby d10_0) rfl rfl ?_
    exact kt)
  obtain ⟨_, _, ⟨T22, L22, k22, n22⟩, -, X22, ⟨_, hQ22, l22, y22, z22⟩, st22⟩ := X0.specialBack hx (y := ym1) rfl hown (ow hZ hw 81 rfl) (ow hZ hw 34 rfl) (ow hZ hw 37 rfl) (by decide) (backOf (W := 0) (rm5 l Z a0 hw [] cx a1 h0 n0 O0 ) hZ (ox hw 37 rfl) (ox hw 36 rfl) (by decide) (by decide)) (g := (mkF m 1 #[vR a1, vR a2, vR a3] [(.ref a1)])) rfl (by rw [hml]; rfl) (Steps.refl _) (a := a1) (argsL := []) (rest := []) (lenOf pd_0 rfl) rfl own_le0 (hb hby d10_1) (fun _ _ => ⟨rfl, e0, (by decide : 0 + 0 ≤ _), (by decide : 0 + 0 ≤ _)⟩)
  dsimp only [Pt.U, Pt.locs, Pt.cells, Pt.slots] at X22 l22 y22 z22 st22 hQ22
  subst l22 y22 z22
  obtain ⟨rfl, Nq22, eq22⟩ := hQ22
  have N23 := Fr.app N0 Nq22
  have q24 := fun t (kt : Go p e below T22 (mkF m 5 #[vR a1, vR a2, vR a3] [(.ref a2)]) t) => q21 t (st22.trans (by
    show Go _ _ _ _ (mkF m 4 #[vR a1, vR a2, vR a3] []) _
    refine XS.aloadN X22.here hx rfl (hb hby d10_4) rfl rfl ?_
    exact kt))
  obtain ⟨_, _, ⟨T25, L25, k25, n25⟩, -, X25, ⟨_, hQ25, l25, y25, z25⟩, st25⟩ := Jvm.LawKit.callS X22 hx (y := ym33) hown (ow hZ hw 82 rfl) (ow hZ hw 83 rfl) (ow hZ hw 84 rfl) (ow hZ hw 85 rfl) (by decide) (backOf (W := 0) (rm11_0 l Z a0 hw [] cx a2 h0 n0 O0 G3 G4) hZ (ox hw 85 rfl) (ox hw 84 rfl) (by decide) (by decide)) (g := (mkF m 5 #[vR a1, vR a2, vR a3] [(.ref a2)])) rfl (by rw [hml]; rfl) (argsL := [(.ref a2)]) (rest := []) (lenOf pd_17 rfl) rfl own_le0 (hb hby d10_5) (fun _ _ => ⟨rfl, eq22, (by decide : 0 + 0 ≤ _), (by decide : 0 + 0 ≤ _)⟩)
  dsimp only [Pt.U, Pt.locs, Pt.cells, Pt.slots] at X25 l25 y25 z25 st25 hQ25
  subst l25 y25 z25
  obtain ⟨rfl, Nq25, eq25⟩ := hQ25
  have N26 := Fr.app N23 Nq25
  have q27 := fun t (kt : Go p e below T25 (mkF m 10 #[vR a1, vR (cw 15), vR a3] [(.ref a3)]) t) => q24 t (st25 t (by
    show Go _ _ _ _ (mkF m 8 #[vR a1, vR a2, vR a3] [(.ref (cw 15))]) _
    refine XS.astoreN X25.here hx rfl (hb hby d10_8) rfl rfl (l' := #[vR a1, vR (cw 15), vR a3]) rfl ?_
    show Go _ _ _ _ (mkF m 9 #[vR a1, vR (cw 15), vR a3] []) _
    refine XS.aloadN X25.here hx rfl (hb hby d10_9) rfl rfl ?_
    exact kt))
  obtain ⟨_, _, ⟨T28, L28, k28, n28⟩, -, X28, ⟨_, hQ28, l28, y28, z28⟩, st28⟩ := Jvm.LawKit.callS X25 hx (y := ym33) hown (ow hZ hw 82 rfl) (ow hZ hw 83 rfl) (ow hZ hw 84 rfl) (ow hZ hw 85 rfl) (by decide) (backOf (W := 0) (rm11_0 l Z a0 hw [] cx a3 h0 n0 O0 G5 G6) hZ (ox hw 85 rfl) (ox hw 84 rfl) (by decide) (by decide)) (g := (mkF m 10 #[vR a1, vR (cw 15), vR a3] [(.ref a3)])) rfl (by rw [hml]; rfl) (argsL := [(.ref a3)]) (rest := []) (lenOf pd_17 rfl) rfl own_le0 (hb hby d10_10) (fun _ _ => ⟨rfl, eq25, (by decide : 0 + 0 ≤ _), (by decide : 0 + 0 ≤ _)⟩)
  dsimp only [Pt.U, Pt.locs, Pt.cells, Pt.slots] at X28 l28 y28 z28 st28 hQ28
  subst l28 y28 z28
  obtain ⟨rfl, Nq28, eq28⟩ := hQ28
  have N29 := Fr.app N26 Nq28
  have q30 := fun t (kt : Go p e below T28 (mkF m 16 #[vR a1, vR (cw 15), vR (cw 15)] [(.ref (cw 15)), (.ref a1)]) t) => q27 t (st28 t (by
    show Go _ _ _ _ (mkF m 13 #[vR a1, vR (cw 15), vR a3] [(.ref (cw 15))]) _
    refine XS.astoreN X28.here hx rfl (hb hby d10_13) rfl rfl (l' := #[vR a1, vR (cw 15), vR (cw 15)]) rfl ?_
    show Go _ _ _ _ (mkF m 14 #[vR a1, vR (cw 15), vR (cw 15)] []) _
    refine XS.aloadN X28.here hx rfl (hb hby d10_14) rfl rfl ?_
    show Go _ _ _ _ (mkF m 15 _ [(.ref a1)]) _
    refine XS.aloadN X28.here hx rfl (hb hby d10_15) rfl rfl ?_
    exact kt))
  obtain ⟨T31, h31, X31, e31, W31, st31⟩ := putF X28 hx hZ hown (host := "") (Or.inl (ox hw 111 rfl)) Via.refl eq28 G1 G0 (Or.inr ⟨(ox hw 112 rfl), rfl, hnm⟩) (ox hw 76 rfl) (ty := (.object sk23)) (by decide) rfl rfl (g := (mkF m 16 #[vR a1, vR (cw 15), vR (cw 15)] [(.ref (cw 15)), (.ref a1)])) rfl rfl (hb hby d10_16)
  have f32 : Fld Z h31 a1 sk8 "outcomes" sk5 (.ref (cw 15)) := G1.same W31
  have N33 := Fr.snoc X31 N29 g_a1
  have O34 := O0.wr W31 g_a1
  have K35 := K0.wr W31 (Or.inl (List.mem_of_getElem? (i := 0) rfl))
  have f36 := (G0.wr W31)
  have f37 := (G2.other W31 (Or.inr (slot_ne (Or.inr (ox hw 114 rfl)) (Or.inr (ox hw 112 rfl)) (by decide) (t := (.object sk23)) (t' := (.object sk23)) (by decide) (by decide))))
  have q38 := fun t (kt : Go p e below T31 (mkF m 21 #[vR a1, vR (cw 15), vR (cw 15)] [(.ref (cw 15)), (.ref a1)]) t) => q30 t (st31 t (by
    show Go _ _ _ _ (mkF m 19 #[vR a1, vR (cw 15), vR (cw 15)] []) _
    refine XS.aloadN X31.here hx rfl (hb hby d10_19) rfl rfl ?_
    show Go _ _ _ _ (mkF m 20 _ [(.ref a1)]) _
    refine XS.aloadN X31.here hx rfl (hb hby d10_20) rfl rfl ?_
    exact kt))
  obtain ⟨T39, h39, X39, e39, W39, st39⟩ := putF X31 hx hZ hown (host := "") (Or.inl (ox hw 113 rfl)) Via.refl e31 f37 f36 (Or.inr ⟨(ox hw 114 rfl), rfl, hnm⟩) (ox hw 76 rfl) (ty := (.object sk23)) (by decide) rfl rfl (g := (mkF m 21 #[vR a1, vR (cw 15), vR (cw 15)] [(.ref (cw 15)), (.ref a1)])) rfl rfl (hb hby d10_21)
  have f40 : Fld Z h39 a1 sk8 "notes" sk5 (.ref (cw 15)) := f37.same W39
  have N41 := Fr.snoc X39 N33 g_a1
  have O42 := O34.wr W39 g_a1
  have K43 := K35.wr W39 (Or.inl (List.mem_of_getElem? (i := 0) rfl))
  have q44 := fun t (kt : Go p e below T39 (mkF m 24 #[vR a1, vR (cw 15), vR (cw 15)] []) t) => q38 t (st39 t kt)
  have f45 := (f32.other W39 (Or.inr (slot_ne (Or.inr (ox hw 112 rfl)) (Or.inr (ox hw 114 rfl)) (by decide) (t := (.object sk23)) (t' := (.object sk23)) (by decide) (by decide))))
  exact ⟨none, T39, _, _, _, _, X39, by decide, by decide, fun _ => rfl, q44, fun fs hr => X39.returnOut hx hret (hb hby d10_24) hr, by rw [e39]; exact ⟨rfl, N41, K43, f45⟩⟩
def Q_rm10_01 (Z : State) (a1 : Addr) (a2 : Addr) (a3 : Addr) (d : Addr) (y1 : Addr) (kd : ClassId) (cw : Nat → Nat) (z_cs : Int32) (h0 : Heap) (n0 : Nat) (v : Option Value) (h : Heap) (L : List Loc) : Prop := v = none ∧ Fr n0 L ∧ Keep h0 h [a1] ∧ Fld Z h a1 sk8 "outcomes" sk5 (.ref (cw 15))
theorem rm10_01 (l : Launch) (Z : State) (a0 : Array Value) (hw : ∀ d ∈ tables_1, d.before a0 Z = true) (ws : List Jvm.Cond) {cw : Nat → Nat} {z_cs : Int32} (cx : Cx Z cw z_cs) (a1 : Addr) (a2 : Addr) (a3 : Addr) (d : Addr) (y1 : Addr) (kd : ClassId) (h0 : Heap) (n0 : Nat) (O0 : Old Z n0 h0) (G0 : Exa Z h0 a1 sk8) (G1 : Fld Z h0 a1 sk8 "outcomes" sk5 .null) (G2 : Fld Z h0 a1 sk8 "notes" sk5 .null) (G3 : Exa Z h0 a2 sk18) (G4 : Fld Z h0 a2 sk18 "size" "I" (.int 0)) (G5 : Exa Z h0 a3 sk18) (G6 : Fld Z h0 a3 sk18 "size" "I" (.int 1)) (G7 : Fld Z h0 a3 sk18 sk12 sk6 (.ref d)) (G8 : Arv Z h0 d kd (.object sk14) (10 : Int32) [(.ref y1), .null, .null, .null, .null, .null, .null, .null, .null, .null] .null) (G9 : Exa Z h0 d sk6) (G10 : Exa Z h0 y1 sk15) (g_a1 : n0 ≤ a1) :
    OwnMet l ym35 (Jvm.Cond.code ym35 prog_13_method_1_code 3 none :: ws) (own_R 8 2 3 113) #[(.ref a1), (.ref a2), (.ref a3)] Z h0 (Q_rm10_01 Z a1 a2 a3 d y1 kd cw z_cs h0 n0) := by
  refine own_body (plainFor_of_name pn_10) hisR fun p e s m below meth c s₁ hx hby hml hown hnm hret hZ X0 e0 => ?_
  have N0 := Fr.nil n0
  have K0 : Keep h0 h0 [a1] := Keep.refl _ _
  have pre0 : ∀ t, Go p e below s₁ (mkF m 0 #[vR a1, vR a2, vR a3] []) t → Go p e below s₁ (entryFrame m #[(.ref a1), (.ref a2), (.ref a3)] 3) t := fun t k => castTop (ef_10_RRR m a1 a2 a3) k
  have q21 := fun t (kt : Go p e below s₁ (mkF m 1 #[vR a1, vR a2, vR a3] [(.ref a1)]) t) => pre0 t (by
    show Go _ _ _ _ (mkF m 0 #[vR a1, vR a2, vR a3] []) _
    refine XS.aloadN X0.here hx rfl (hb hby d10_0) rfl rfl ?_
    exact kt)
  obtain ⟨_, _, ⟨T22, L22, k22, n22⟩, -, X22, ⟨_, hQ22, l22, y22, z22⟩, st22⟩ := X0.specialBack hx (y := ym1) rfl hown (ow hZ hw 81 rfl) (ow hZ hw 34 rfl) (ow hZ hw 37 rfl) (by decide) (backOf (W := 0) (rm5 l Z a0 hw [] cx a1 h0 n0 O0 ) hZ (ox hw 37 rfl) (ox hw 36 rfl) (by decide) (by decide)) (g := (mkF m 1 #[vR a1, vR a2, vR a3] [(.ref a1)])) rfl (by rw [hml]; rfl) (Steps.refl _) (a := a1) (argsL := []) (rest := []) (lenOf pd_0 rfl) rfl own_le0 (hb hby d10_1) (fun _ _ => ⟨rfl, e0, (by decide : 0 + 0 ≤ _), (by decide : 0 + 0 ≤ _)⟩)
  dsimp only [Pt.U, Pt.locs, Pt.cells, Pt.slots] at X22 l22 y22 z22 st22 hQ22
  subst l22 y22 z22
  obtain ⟨rfl, Nq22, eq22⟩ := hQ22
  have N23 := Fr.app N0 Nq22
  have q24 := fun t (kt : Go p e below T22 (mkF m 5 #[vR a1, vR a2, vR a3] [(.ref a2)]) t) => q21 t (st22.trans (by
    show Go _ _ _ _ (mkF m 4 #[vR a1, vR a2, vR a3] []) _
    refine XS.aloadN X22.here hx rfl (hb hby d10_4) rfl rfl ?_
    exact kt))
  obtain ⟨_, _, ⟨T25, L25, k25, n25⟩, -, X25, ⟨_, hQ25, l25, y25, z25⟩, st25⟩ := Jvm.LawKit.callS X22 hx (y := ym33) hown (ow hZ hw 82 rfl) (ow hZ hw 83 rfl) (ow hZ hw 84 rfl) (ow hZ hw 85 rfl) (by decide) (backOf (W := 0) (rm11_0 l Z a0 hw [] cx a2 h0 n0 O0 G3 G4) hZ (ox hw 85 rfl) (ox hw 84 rfl) (by decide) (by decide)) (g := (mkF m 5 #[vR a1, vR a2, vR a3] [(.ref a2)])) rfl (by rw [hml]; rfl) (argsL := [(.ref a2)]) (rest := []) (lenOf pd_17 rfl) rfl own_le0 (hb hby d10_5) (fun _ _ => ⟨rfl, eq22, (by decide : 0 + 0 ≤ _), (by decide : 0 + 0 ≤ _)⟩)
  dsimp only [Pt.U, Pt.locs, Pt.cells, Pt.slots] at X25 l25 y25 z25 st25 hQ25
  subst l25 y25 z25
  obtain ⟨rfl, Nq25, eq25⟩ := hQ25
  have N26 := Fr.app N23 Nq25
  have q27 := fun t (kt : Go p e below T25 (mkF m 10 #[vR a1, vR (cw 15), vR a3] [(.ref a3)]) t) => q24 t (st25 t (by
    show Go _ _ _ _ (mkF m 8 #[vR a1, vR a2, vR a3] [(.ref (cw 15))]) _
    refine XS.astoreN X25.here hx rfl (hb hby d10_8) rfl rfl (l' := #[vR a1, vR (cw 15), vR a3]) rfl ?_
    show Go _ _ _ _ (mkF m 9 #[vR a1, vR (cw 15), vR a3] []) _
    refine XS.aloadN X25.here hx rfl (hb hby d10_9) rfl rfl ?_
    exact kt))
  obtain ⟨_, _, ⟨T28, L28, k28, n28⟩, -, X28, ⟨_, hQ28, l28, y28, z28⟩, st28⟩ := Jvm.LawKit.callS X25 hx (y := ym33) hown (ow hZ hw 82 rfl) (ow hZ hw 83 rfl) (ow hZ hw 84 rfl) (ow hZ hw 85 rfl) (by decide) (backOf (W := 0) (rm11_1 l Z a0 hw [] cx a3 (sk15) d y1 kd h0 n0 O0 G5 G7 G6 G8 G9 G10 (ox hw 232 rfl)) hZ (ox hw 85 rfl) (ox hw 84 rfl) (by decide) (by decide)) (g := (mkF m 10 #[vR a1, vR (cw 15), vR a3] [(.ref a3)])) rfl (by rw [hml]; rfl) (argsL := [(.ref a3)]) (rest := []) (lenOf pd_17 rfl) rfl own_le0 (hb hby d10_10) (fun _ _ => ⟨rfl, eq25, (by decide : 0 + 2 ≤ _), (by decide : 0 + 3 ≤ _)⟩)
  dsimp only [Pt.U, Pt.locs, Pt.cells, Pt.slots] at X28 l28 y28 z28 st28 hQ28
  subst l28 y28 z28
  obtain ⟨r_28, rfl, Nq28, Kq28, fr28_0, fq28_0, fq28_1, fq28_2⟩ := hQ28
  have N29 := Fr.app N26 Nq28
  have gg30 : n0 ≤ r_28 := Nat.le_trans (O0.1 ▸ O0.2.1) fr28_0
  have sz31 : h0.size ≤ r_28 := Nat.le_trans K0.1 fr28_0
  have O32 := O0.keep Kq28 all0
  have K33 := K0.trans Kq28 all0
  have f34 := (G0.keep Kq28)
  have f35 := (G1.keep Kq28 nin0)
  have q36 := fun t (kt : Go p e below T28 (mkF m 16 #[vR a1, vR (cw 15), vR r_28] [(.ref (cw 15)), (.ref a1)]) t) => q27 t (st28 t (by
    show Go _ _ _ _ (mkF m 13 #[vR a1, vR (cw 15), vR a3] [(.ref r_28)]) _
    refine XS.astoreN X28.here hx rfl (hb hby d10_13) rfl rfl (l' := #[vR a1, vR (cw 15), vR r_28]) rfl ?_
    show Go _ _ _ _ (mkF m 14 #[vR a1, vR (cw 15), vR r_28] []) _
    refine XS.aloadN X28.here hx rfl (hb hby d10_14) rfl rfl ?_
    show Go _ _ _ _ (mkF m 15 _ [(.ref a1)]) _
    refine XS.aloadN X28.here hx rfl (hb hby d10_15) rfl rfl ?_
    exact kt))
  obtain ⟨T37, h37, X37, e37, W37, st37⟩ := putF X28 hx hZ hown (host := "") (Or.inl (ox hw 111 rfl)) Via.refl rfl f35 f34 (Or.inr ⟨(ox hw 112 rfl), rfl, hnm⟩) (ox hw 76 rfl) (ty := (.object sk23)) (by decide) rfl rfl (g := (mkF m 16 #[vR a1, vR (cw 15), vR r_28] [(.ref (cw 15)), (.ref a1)])) rfl rfl (hb hby d10_16)
  have f38 : Fld Z h37 a1 sk8 "outcomes" sk5 (.ref (cw 15)) := f35.same W37
  have N39 := Fr.snoc X37 N29 g_a1
  have O40 := O32.wr W37 g_a1
  have K41 := K33.wr W37 (Or.inl (List.mem_of_getElem? (i := 0) rfl))
  have f42 := (f34.wr W37)
  have f43 := ((G2.keep Kq28 nin0).other W37 (Or.inr (slot_ne (Or.inr (ox hw 114 rfl)) (Or.inr (ox hw 112 rfl)) (by decide) (t := (.object sk23)) (t' := (.object sk23)) (by decide) (by decide))))
  have q44 := fun t (kt : Go p e below T37 (mkF m 21 #[vR a1, vR (cw 15), vR r_28] [(.ref r_28), (.ref a1)]) t) => q36 t (st37 t (by
    show Go _ _ _ _ (mkF m 19 #[vR a1, vR (cw 15), vR r_28] []) _
    refine XS.aloadN X37.here hx rfl (hb hby d10_19) rfl rfl ?_
    show Go _ _ _ _ (mkF m 20 _ [(.ref a1)]) _
    refine XS.aloadN X37.here hx rfl (hb hby d10_20) rfl rfl ?_
    exact kt))
  obtain ⟨T45, h45, X45, e45, W45, st45⟩ := putF X37 hx hZ hown (host := "") (Or.inl (ox hw 113 rfl)) Via.refl e37 f43 f42 (Or.inr ⟨(ox hw 114 rfl), rfl, hnm⟩) (ox hw 76 rfl) (ty := (.object sk23)) (by decide) rfl rfl (g := (mkF m 21 #[vR a1, vR (cw 15), vR r_28] [(.ref r_28), (.ref a1)])) rfl rfl (hb hby d10_21)
  have f46 : Fld Z h45 a1 sk8 "notes" sk5 (.ref r_28) := f43.same W45
  have N47 := Fr.snoc X45 N39 g_a1
  have O48 := O40.wr W45 g_a1
  have K49 := K41.wr W45 (Or.inl (List.mem_of_getElem? (i := 0) rfl))
  have q50 := fun t (kt : Go p e below T45 (mkF m 24 #[vR a1, vR (cw 15), vR r_28] []) t) => q44 t (st45 t kt)
  have f51 := (f38.other W45 (Or.inr (slot_ne (Or.inr (ox hw 112 rfl)) (Or.inr (ox hw 114 rfl)) (by decide) (t := (.object sk23)) (t' := (.object sk23)) (by decide) (by decide))))
  exact ⟨none, T45, _, _, _, _, X45, by decide, by decide, fun _ => rfl, q50, fun fs hr => X45.returnOut hx hret (hb hby d10_24) hr, by rw [e45]; exact ⟨rfl, N47, K49, f51⟩⟩
def Q_rm10_10 (Z : State) (a1 : Addr) (a2 : Addr) (a3 : Addr) (b : Addr) (x1 : Addr) (kb : ClassId) (cw : Nat → Nat) (z_cs : Int32) (h0 : Heap) (n0 : Nat) (v : Option Value) (h : Heap) (L : List Loc) : Prop := ∃ (r : Addr), v = none ∧ Fr n0 L ∧ Keep h0 h [a1] ∧ h0.size ≤ r ∧ Fld Z h a1 sk8 "outcomes" sk5 (.ref r) ∧ Exa Z h r sk19 ∧ Fld Z h r sk19 "e0" sk3 (.ref x1) ∧ Fld Z h r sk19 "e1" sk3 (.ref (cw 19))
theorem rm10_10 (l : Launch) (Z : State) (a0 : Array Value) (hw : ∀ d ∈ tables_1, d.before a0 Z = true) (ws : List Jvm.Cond) {cw : Nat → Nat} {z_cs : Int32} (cx : Cx Z cw z_cs) (a1 : Addr) (a2 : Addr) (a3 : Addr) (b : Addr) (x1 : Addr) (kb : ClassId) (h0 : Heap) (n0 : Nat) (O0 : Old Z n0 h0) (G0 : Exa Z h0 a1 sk8) (G1 : Fld Z h0 a1 sk8 "outcomes" sk5 .null) (G2 : Fld Z h0 a1 sk8 "notes" sk5 .null) (G3 : Exa Z h0 a2 sk18) (G4 : Fld Z h0 a2 sk18 "size" "I" (.int 1)) (G5 : Fld Z h0 a2 sk18 sk12 sk6 (.ref b)) (G6 : Arv Z h0 b kb (.object sk14) (10 : Int32) [(.ref x1), .null, .null, .null, .null, .null, .null, .null, .null, .null] .null) (G7 : Exa Z h0 b sk6) (G8 : Exa Z h0 x1 sk9) (G9 : Exa Z h0 a3 sk18) (G10 : Fld Z h0 a3 sk18 "size" "I" (.int 0)) (g_a1 : n0 ≤ a1) :
    OwnMet l ym35 (Jvm.Cond.code ym35 prog_13_method_1_code 3 none :: ws) (own_R 8 2 3 113) #[(.ref a1), (.ref a2), (.ref a3)] Z h0 (Q_rm10_10 Z a1 a2 a3 b x1 kb cw z_cs h0 n0) := by
  refine own_body (plainFor_of_name pn_10) hisR fun p e s m below meth c s₁ hx hby hml hown hnm hret hZ X0 e0 => ?_
  have N0 := Fr.nil n0
  have K0 : Keep h0 h0 [a1] := Keep.refl _ _
  have pre0 : ∀ t, Go p e below s₁ (mkF m 0 #[vR a1, vR a2, vR a3] []) t → Go p e below s₁ (entryFrame m #[(.ref a1), (.ref a2), (.ref a3)] 3) t := fun t k => castTop (ef_10_RRR m a1 a2 a3) k
  have q21 := fun t (kt : Go p e below s₁ (mkF m 1 #[vR a1, vR a2, vR a3] [(.ref a1)]) t) => pre0 t (by
    show Go _ _ _ _ (mkF m 0 #[vR a1, vR a2, vR a3] []) _
    refine XS.aloadN X0.here hx rfl (hb hby d10_0) rfl rfl ?_
    exact kt)
  obtain ⟨_, _, ⟨T22, L22, k22, n22⟩, -, X22, ⟨_, hQ22, l22, y22, z22⟩, st22⟩ := X0.specialBack hx (y := ym1) rfl hown (ow hZ hw 81 rfl) (ow hZ hw 34 rfl) (ow hZ hw 37 rfl) (by decide) (backOf (W := 0) (rm5 l Z a0 hw [] cx a1 h0 n0 O0 ) hZ (ox hw 37 rfl) (ox hw 36 rfl) (by decide) (by decide)) (g := (mkF m 1 #[vR a1, vR a2, vR a3] [(.ref a1)])) rfl (by rw [hml]; rfl) (Steps.refl _) (a := a1) (argsL := []) (rest := []) (lenOf pd_0 rfl) rfl own_le0 (hb hby d10_1) (fun _ _ => ⟨rfl, e0, (by decide : 0 + 0 ≤ _), (by decide : 0 + 0 ≤ _)⟩)
  dsimp only [Pt.U, Pt.locs, Pt.cells, Pt.slots] at X22 l22 y22 z22 st22 hQ22
  subst l22 y22 z22
  obtain ⟨rfl, Nq22, eq22⟩ := hQ22
  have N23 := Fr.app N0 Nq22
  have q24 := fun t (kt : Go p e below T22 (mkF m 5 #[vR a1, vR a2, vR a3] [(.ref a2)]) t) => q21 t (st22.trans (by
    show Go _ _ _ _ (mkF m 4 #[vR a1, vR a2, vR a3] []) _
    refine XS.aloadN X22.here hx rfl (hb hby d10_4) rfl rfl ?_
    exact kt))
  obtain ⟨_, _, ⟨T25, L25, k25, n25⟩, -, X25, ⟨_, hQ25, l25, y25, z25⟩, st25⟩ := Jvm.LawKit.callS X22 hx (y := ym33) hown (ow hZ hw 82 rfl) (ow hZ hw 83 rfl) (ow hZ hw 84 rfl) (ow hZ hw 85 rfl) (by decide) (backOf (W := 0) (rm11_1 l Z a0 hw [] cx a2 (sk9) b x1 kb h0 n0 O0 G3 G5 G4 G6 G7 G8 (ox hw 212 rfl)) hZ (ox hw 85 rfl) (ox hw 84 rfl) (by decide) (by decide)) (g := (mkF m 5 #[vR a1, vR a2, vR a3] [(.ref a2)])) rfl (by rw [hml]; rfl) (argsL := [(.ref a2)]) (rest := []) (lenOf pd_17 rfl) rfl own_le0 (hb hby d10_5) (fun _ _ => ⟨rfl, eq22, (by decide : 0 + 2 ≤ _), (by decide : 0 + 3 ≤ _)⟩)
  dsimp only [Pt.U, Pt.locs, Pt.cells, Pt.slots] at X25 l25 y25 z25 st25 hQ25
  subst l25 y25 z25
  obtain ⟨r_25, rfl, Nq25, Kq25, fr25_0, fq25_0, fq25_1, fq25_2⟩ := hQ25
  have N26 := Fr.app N23 Nq25
  have gg27 : n0 ≤ r_25 := Nat.le_trans (O0.1 ▸ O0.2.1) fr25_0
  have sz28 : h0.size ≤ r_25 := Nat.le_trans K0.1 fr25_0
  have O29 := O0.keep Kq25 all0
  have K30 := K0.trans Kq25 all0
  have f31 := (G9.keep Kq25)
  have f32 := (G10.keep Kq25 nin0)
  have q33 := fun t (kt : Go p e below T25 (mkF m 10 #[vR a1, vR r_25, vR a3] [(.ref a3)]) t) => q24 t (st25 t (by
    show Go _ _ _ _ (mkF m 8 #[vR a1, vR a2, vR a3] [(.ref r_25)]) _
    refine XS.astoreN X25.here hx rfl (hb hby d10_8) rfl rfl (l' := #[vR a1, vR r_25, vR a3]) rfl ?_
    show Go _ _ _ _ (mkF m 9 #[vR a1, vR r_25, vR a3] []) _
    refine XS.aloadN X25.here hx rfl (hb hby d10_9) rfl rfl ?_
    exact kt))
  obtain ⟨_, _, ⟨T34, L34, k34, n34⟩, -, X34, ⟨_, hQ34, l34, y34, z34⟩, st34⟩ := Jvm.LawKit.callS X25 hx (y := ym33) hown (ow hZ hw 82 rfl) (ow hZ hw 83 rfl) (ow hZ hw 84 rfl) (ow hZ hw 85 rfl) (by decide) (backOf (W := 0) (rm11_0 l Z a0 hw [] cx a3 T25.heap n0 O29 f31 f32) hZ (ox hw 85 rfl) (ox hw 84 rfl) (by decide) (by decide)) (g := (mkF m 10 #[vR a1, vR r_25, vR a3] [(.ref a3)])) rfl (by rw [hml]; rfl) (argsL := [(.ref a3)]) (rest := []) (lenOf pd_17 rfl) rfl own_le0 (hb hby d10_10) (fun _ _ => ⟨rfl, rfl, (by decide : 2 + 0 ≤ _), (by decide : 3 + 0 ≤ _)⟩)
  dsimp only [Pt.U, Pt.locs, Pt.cells, Pt.slots] at X34 l34 y34 z34 st34 hQ34
  subst l34 y34 z34
  obtain ⟨rfl, Nq34, eq34⟩ := hQ34
  have N35 := Fr.app N26 Nq34
  have f36 := (G0.keep Kq25)
  have f37 := (G1.keep Kq25 nin0)
  have q38 := fun t (kt : Go p e below T34 (mkF m 16 #[vR a1, vR r_25, vR (cw 15)] [(.ref r_25), (.ref a1)]) t) => q33 t (st34 t (by
    show Go _ _ _ _ (mkF m 13 #[vR a1, vR r_25, vR a3] [(.ref (cw 15))]) _
    refine XS.astoreN X34.here hx rfl (hb hby d10_13) rfl rfl (l' := #[vR a1, vR r_25, vR (cw 15)]) rfl ?_
    show Go _ _ _ _ (mkF m 14 #[vR a1, vR r_25, vR (cw 15)] []) _
    refine XS.aloadN X34.here hx rfl (hb hby d10_14) rfl rfl ?_
    show Go _ _ _ _ (mkF m 15 _ [(.ref a1)]) _
    refine XS.aloadN X34.here hx rfl (hb hby d10_15) rfl rfl ?_
    exact kt))
  obtain ⟨T39, h39, X39, e39, W39, st39⟩ := putF X34 hx hZ hown (host := "") (Or.inl (ox hw 111 rfl)) Via.refl eq34 f37 f36 (Or.inr ⟨(ox hw 112 rfl), rfl, hnm⟩) (ox hw 76 rfl) (ty := (.object sk23)) (by decide) rfl rfl (g := (mkF m 16 #[vR a1, vR r_25, vR (cw 15)] [(.ref r_25), (.ref a1)])) rfl rfl (hb hby d10_16)
  have f40 : Fld Z h39 a1 sk8 "outcomes" sk5 (.ref r_25) := f37.same W39
  have N41 := Fr.snoc X39 N35 g_a1
  have O42 := O29.wr W39 g_a1
  have K43 := K30.wr W39 (Or.inl (List.mem_of_getElem? (i := 0) rfl))
  have f44 := (f36.wr W39)
  have f45 := ((G2.keep Kq25 nin0).other W39 (Or.inr (slot_ne (Or.inr (ox hw 114 rfl)) (Or.inr (ox hw 112 rfl)) (by decide) (t := (.object sk23)) (t' := (.object sk23)) (by decide) (by decide))))
  have q46 := fun t (kt : Go p e below T39 (mkF m 21 #[vR a1, vR r_25, vR (cw 15)] [(.ref (cw 15)), (.ref a1)]) t) => q38 t (st39 t (by
    show Go _ _ _ _ (mkF m 19 #[vR a1, vR r_25, vR (cw 15)] []) _
    refine XS.aloadN X39.here hx rfl (hb hby d10_19) rfl rfl ?_
    show Go _ _ _ _ (mkF m 20 _ [(.ref a1)]) _
    refine XS.aloadN X39.here hx rfl (hb hby d10_20) rfl rfl ?_
    exact kt))
  obtain ⟨T47, h47, X47, e47, W47, st47⟩ := putF X39 hx hZ hown (host := "") (Or.inl (ox hw 113 rfl)) Via.refl e39 f45 f44 (Or.inr ⟨(ox hw 114 rfl), rfl, hnm⟩) (ox hw 76 rfl) (ty := (.object sk23)) (by decide) rfl rfl (g := (mkF m 21 #[vR a1, vR r_25, vR (cw 15)] [(.ref (cw 15)), (.ref a1)])) rfl rfl (hb hby d10_21)
  have f48 : Fld Z h47 a1 sk8 "notes" sk5 (.ref (cw 15)) := f45.same W47
  have N49 := Fr.snoc X47 N41 g_a1
  have O50 := O42.wr W47 g_a1
  have K51 := K43.wr W47 (Or.inl (List.mem_of_getElem? (i := 0) rfl))
  have q52 := fun t (kt : Go p e below T47 (mkF m 24 #[vR a1, vR r_25, vR (cw 15)] []) t) => q46 t (st47 t kt)
  have f53 := (f40.other W47 (Or.inr (slot_ne (Or.inr (ox hw 112 rfl)) (Or.inr (ox hw 114 rfl)) (by decide) (t := (.object sk23)) (t' := (.object sk23)) (by decide) (by decide))))
  have f54 := ((fq25_0.wr W39).wr W47)
  have ne55 : a1 ≠ r_25 := (Nat.ne_of_lt (Nat.lt_of_lt_of_le G0.lt fr25_0))
  have f56 := ((fq25_1.other W39 (Or.inl (Ne.symm ne55))).other W47 (Or.inl (Ne.symm ne55)))
  have f57 := ((fq25_2.other W39 (Or.inl (Ne.symm ne55))).other W47 (Or.inl (Ne.symm ne55)))
  exact ⟨none, T47, _, _, _, _, X47, by decide, by decide, fun _ => rfl, q52, fun fs hr => X47.returnOut hx hret (hb hby d10_24) hr, by rw [e47]; exact ⟨r_25, rfl, N49, K51, sz28, f53, f54, f56, f57⟩⟩
def Q_rm10_11 (Z : State) (a1 : Addr) (a2 : Addr) (a3 : Addr) (b : Addr) (x1 : Addr) (kb : ClassId) (d : Addr) (y1 : Addr) (kd : ClassId) (cw : Nat → Nat) (z_cs : Int32) (h0 : Heap) (n0 : Nat) (v : Option Value) (h : Heap) (L : List Loc) : Prop := ∃ (r : Addr), v = none ∧ Fr n0 L ∧ Keep h0 h [a1] ∧ h0.size ≤ r ∧ Fld Z h a1 sk8 "outcomes" sk5 (.ref r) ∧ Exa Z h r sk19 ∧ Fld Z h r sk19 "e0" sk3 (.ref x1) ∧ Fld Z h r sk19 "e1" sk3 (.ref (cw 19))
theorem rm10_11 (l : Launch) (Z : State) (a0 : Array Value) (hw : ∀ d ∈ tables_1, d.before a0 Z = true) (ws : List Jvm.Cond) {cw : Nat → Nat} {z_cs : Int32} (cx : Cx Z cw z_cs) (a1 : Addr) (a2 : Addr) (a3 : Addr) (b : Addr) (x1 : Addr) (kb : ClassId) (d : Addr) (y1 : Addr) (kd : ClassId) (h0 : Heap) (n0 : Nat) (O0 : Old Z n0 h0) (G0 : Exa Z h0 a1 sk8) (G1 : Fld Z h0 a1 sk8 "outcomes" sk5 .null) (G2 : Fld Z h0 a1 sk8 "notes" sk5 .null) (G3 : Exa Z h0 a2 sk18) (G4 : Fld Z h0 a2 sk18 "size" "I" (.int 1)) (G5 : Fld Z h0 a2 sk18 sk12 sk6 (.ref b)) (G6 : Arv Z h0 b kb (.object sk14) (10 : Int32) [(.ref x1), .null, .null, .null, .null, .null, .null, .null, .null, .null] .null) (G7 : Exa Z h0 b sk6) (G8 : Exa Z h0 x1 sk9) (G9 : Exa Z h0 a3 sk18) (G10 : Fld Z h0 a3 sk18 "size" "I" (.int 1)) (G11 : Fld Z h0 a3 sk18 sk12 sk6 (.ref d)) (G12 : Arv Z h0 d kd (.object sk14) (10 : Int32) [(.ref y1), .null, .null, .null, .null, .null, .null, .null, .null, .null] .null) (G13 : Exa Z h0 d sk6) (G14 : Exa Z h0 y1 sk15) (g_a1 : n0 ≤ a1) :
    OwnMet l ym35 (Jvm.Cond.code ym35 prog_13_method_1_code 3 none :: ws) (own_R 8 4 6 113) #[(.ref a1), (.ref a2), (.ref a3)] Z h0 (Q_rm10_11 Z a1 a2 a3 b x1 kb d y1 kd cw z_cs h0 n0) := by
  refine own_body (plainFor_of_name pn_10) hisR fun p e s m below meth c s₁ hx hby hml hown hnm hret hZ X0 e0 => ?_
  have N0 := Fr.nil n0
  have K0 : Keep h0 h0 [a1] := Keep.refl _ _
  have pre0 : ∀ t, Go p e below s₁ (mkF m 0 #[vR a1, vR a2, vR a3] []) t → Go p e below s₁ (entryFrame m #[(.ref a1), (.ref a2), (.ref a3)] 3) t := fun t k => castTop (ef_10_RRR m a1 a2 a3) k
  have q21 := fun t (kt : Go p e below s₁ (mkF m 1 #[vR a1, vR a2, vR a3] [(.ref a1)]) t) => pre0 t (by
    show Go _ _ _ _ (mkF m 0 #[vR a1, vR a2, vR a3] []) _
    refine XS.aloadN X0.here hx rfl (hb hby d10_0) rfl rfl ?_
    exact kt)
  obtain ⟨_, _, ⟨T22, L22, k22, n22⟩, -, X22, ⟨_, hQ22, l22, y22, z22⟩, st22⟩ := X0.specialBack hx (y := ym1) rfl hown (ow hZ hw 81 rfl) (ow hZ hw 34 rfl) (ow hZ hw 37 rfl) (by decide) (backOf (W := 0) (rm5 l Z a0 hw [] cx a1 h0 n0 O0 ) hZ (ox hw 37 rfl) (ox hw 36 rfl) (by decide) (by decide)) (g := (mkF m 1 #[vR a1, vR a2, vR a3] [(.ref a1)])) rfl (by rw [hml]; rfl) (Steps.refl _) (a := a1) (argsL := []) (rest := []) (lenOf pd_0 rfl) rfl own_le0 (hb hby d10_1) (fun _ _ => ⟨rfl, e0, (by decide : 0 + 0 ≤ _), (by decide : 0 + 0 ≤ _)⟩)
  dsimp only [Pt.U, Pt.locs, Pt.cells, Pt.slots] at X22 l22 y22 z22 st22 hQ22
  subst l22 y22 z22
  obtain ⟨rfl, Nq22, eq22⟩ := hQ22
  have N23 := Fr.app N0 Nq22
  have q24 := fun t (kt : Go p e below T22 (mkF m 5 #[vR a1, vR a2, vR a3] [(.ref a2)]) t) => q21 t (st22.trans (by
    show Go _ _ _ _ (mkF m 4 #[vR a1, vR a2, vR a3] []) _
    refine XS.aloadN X22.here hx rfl (hb hby d10_4) rfl rfl ?_
    exact kt))
  obtain ⟨_, _, ⟨T25, L25, k25, n25⟩, -, X25, ⟨_, hQ25, l25, y25, z25⟩, st25⟩ := Jvm.LawKit.callS X22 hx (y := ym33) hown (ow hZ hw 82 rfl) (ow hZ hw 83 rfl) (ow hZ hw 84 rfl) (ow hZ hw 85 rfl) (by decide) (backOf (W := 0) (rm11_1 l Z a0 hw [] cx a2 (sk9) b x1 kb h0 n0 O0 G3 G5 G4 G6 G7 G8 (ox hw 212 rfl)) hZ (ox hw 85 rfl) (ox hw 84 rfl) (by decide) (by decide)) (g := (mkF m 5 #[vR a1, vR a2, vR a3] [(.ref a2)])) rfl (by rw [hml]; rfl) (argsL := [(.ref a2)]) (rest := []) (lenOf pd_17 rfl) rfl own_le0 (hb hby d10_5) (fun _ _ => ⟨rfl, eq22, (by decide : 0 + 2 ≤ _), (by decide : 0 + 3 ≤ _)⟩)
  dsimp only [Pt.U, Pt.locs, Pt.cells, Pt.slots] at X25 l25 y25 z25 st25 hQ25
  subst l25 y25 z25
  obtain ⟨r_25, rfl, Nq25, Kq25, fr25_0, fq25_0, fq25_1, fq25_2⟩ := hQ25
  have N26 := Fr.app N23 Nq25
  have gg27 : n0 ≤ r_25 := Nat.le_trans (O0.1 ▸ O0.2.1) fr25_0
  have sz28 : h0.size ≤ r_25 := Nat.le_trans K0.1 fr25_0
  have O29 := O0.keep Kq25 all0
  have K30 := K0.trans Kq25 all0
  have f31 := (G9.keep Kq25)
  have f32 := (G11.keep Kq25 nin0)
  have f33 := (G10.keep Kq25 nin0)
  have f34 := (G12.keep Kq25 nin0)
  have f35 := (G13.keep Kq25)
  have f36 := (G14.keep Kq25)
  have q37 := fun t (kt : Go p e below T25 (mkF m 10 #[vR a1, vR r_25, vR a3] [(.ref a3)]) t) => q24 t (st25 t (by
    show Go _ _ _ _ (mkF m 8 #[vR a1, vR a2, vR a3] [(.ref r_25)]) _
    refine XS.astoreN X25.here hx rfl (hb hby d10_8) rfl rfl (l' := #[vR a1, vR r_25, vR a3]) rfl ?_
    show Go _ _ _ _ (mkF m 9 #[vR a1, vR r_25, vR a3] []) _
    refine XS.aloadN X25.here hx rfl (hb hby d10_9) rfl rfl ?_
    exact kt))
  obtain ⟨_, _, ⟨T38, L38, k38, n38⟩, -, X38, ⟨_, hQ38, l38, y38, z38⟩, st38⟩ := Jvm.LawKit.callS X25 hx (y := ym33) hown (ow hZ hw 82 rfl) (ow hZ hw 83 rfl) (ow hZ hw 84 rfl) (ow hZ hw 85 rfl) (by decide) (backOf (W := 0) (rm11_1 l Z a0 hw [] cx a3 (sk15) d y1 kd T25.heap n0 O29 f31 f32 f33 f34 f35 f36 (ox hw 232 rfl)) hZ (ox hw 85 rfl) (ox hw 84 rfl) (by decide) (by decide)) (g := (mkF m 10 #[vR a1, vR r_25, vR a3] [(.ref a3)])) rfl (by rw [hml]; rfl) (argsL := [(.ref a3)]) (rest := []) (lenOf pd_17 rfl) rfl own_le0 (hb hby d10_10) (fun _ _ => ⟨rfl, rfl, (by decide : 2 + 2 ≤ _), (by decide : 3 + 3 ≤ _)⟩)
  dsimp only [Pt.U, Pt.locs, Pt.cells, Pt.slots] at X38 l38 y38 z38 st38 hQ38
  subst l38 y38 z38
  obtain ⟨r_38, rfl, Nq38, Kq38, fr38_0, fq38_0, fq38_1, fq38_2⟩ := hQ38
  have N39 := Fr.app N26 Nq38
  have gg40 : n0 ≤ r_38 := Nat.le_trans (O29.1 ▸ O29.2.1) fr38_0
  have sz41 : h0.size ≤ r_38 := Nat.le_trans K30.1 fr38_0
  have O42 := O29.keep Kq38 all0
  have K43 := K30.trans Kq38 all0
  have f44 := ((G0.keep Kq25).keep Kq38)
  have f45 := ((G1.keep Kq25 nin0).keep Kq38 nin0)
  have q46 := fun t (kt : Go p e below T38 (mkF m 16 #[vR a1, vR r_25, vR r_38] [(.ref r_25), (.ref a1)]) t) => q37 t (st38 t (by
    show Go _ _ _ _ (mkF m 13 #[vR a1, vR r_25, vR a3] [(.ref r_38)]) _
    refine XS.astoreN X38.here hx rfl (hb hby d10_13) rfl rfl (l' := #[vR a1, vR r_25, vR r_38]) rfl ?_
    show Go _ _ _ _ (mkF m 14 #[vR a1, vR r_25, vR r_38] []) _
    refine XS.aloadN X38.here hx rfl (hb hby d10_14) rfl rfl ?_
    show Go _ _ _ _ (mkF m 15 _ [(.ref a1)]) _
    refine XS.aloadN X38.here hx rfl (hb hby d10_15) rfl rfl ?_
    exact kt))
  obtain ⟨T47, h47, X47, e47, W47, st47⟩ := putF X38 hx hZ hown (host := "") (Or.inl (ox hw 111 rfl)) Via.refl rfl f45 f44 (Or.inr ⟨(ox hw 112 rfl), rfl, hnm⟩) (ox hw 76 rfl) (ty := (.object sk23)) (by decide) rfl rfl (g := (mkF m 16 #[vR a1, vR r_25, vR r_38] [(.ref r_25), (.ref a1)])) rfl rfl (hb hby d10_16)
  have f48 : Fld Z h47 a1 sk8 "outcomes" sk5 (.ref r_25) := f45.same W47
  have N49 := Fr.snoc X47 N39 g_a1
  have O50 := O42.wr W47 g_a1
  have K51 := K43.wr W47 (Or.inl (List.mem_of_getElem? (i := 0) rfl))
  have f52 := (f44.wr W47)
  have f53 := (((G2.keep Kq25 nin0).keep Kq38 nin0).other W47 (Or.inr (slot_ne (Or.inr (ox hw 114 rfl)) (Or.inr (ox hw 112 rfl)) (by decide) (t := (.object sk23)) (t' := (.object sk23)) (by decide) (by decide))))
  have q54 := fun t (kt : Go p e below T47 (mkF m 21 #[vR a1, vR r_25, vR r_38] [(.ref r_38), (.ref a1)]) t) => q46 t (st47 t (by
    show Go _ _ _ _ (mkF m 19 #[vR a1, vR r_25, vR r_38] []) _
    refine XS.aloadN X47.here hx rfl (hb hby d10_19) rfl rfl ?_
    show Go _ _ _ _ (mkF m 20 _ [(.ref a1)]) _
    refine XS.aloadN X47.here hx rfl (hb hby d10_20) rfl rfl ?_
    exact kt))
  obtain ⟨T55, h55, X55, e55, W55, st55⟩ := putF X47 hx hZ hown (host := "") (Or.inl (ox hw 113 rfl)) Via.refl e47 f53 f52 (Or.inr ⟨(ox hw 114 rfl), rfl, hnm⟩) (ox hw 76 rfl) (ty := (.object sk23)) (by decide) rfl rfl (g := (mkF m 21 #[vR a1, vR r_25, vR r_38] [(.ref r_38), (.ref a1)])) rfl rfl (hb hby d10_21)
  have f56 : Fld Z h55 a1 sk8 "notes" sk5 (.ref r_38) := f53.same W55
  have N57 := Fr.snoc X55 N49 g_a1
  have O58 := O50.wr W55 g_a1
  have K59 := K51.wr W55 (Or.inl (List.mem_of_getElem? (i := 0) rfl))
  have q60 := fun t (kt : Go p e below T55 (mkF m 24 #[vR a1, vR r_25, vR r_38] []) t) => q54 t (st55 t kt)
  have f61 := (f48.other W55 (Or.inr (slot_ne (Or.inr (ox hw 112 rfl)) (Or.inr (ox hw 114 rfl)) (by decide) (t := (.object sk23)) (t' := (.object sk23)) (by decide) (by decide))))
  have f62 := (((fq25_0.keep Kq38).wr W47).wr W55)
  have ne63 : a1 ≠ r_25 := (Nat.ne_of_lt (Nat.lt_of_lt_of_le G0.lt fr25_0))
  have f64 := (((fq25_1.keep Kq38 nin0).other W47 (Or.inl (Ne.symm ne63))).other W55 (Or.inl (Ne.symm ne63)))
  have f65 := (((fq25_2.keep Kq38 nin0).other W47 (Or.inl (Ne.symm ne63))).other W55 (Or.inl (Ne.symm ne63)))
  exact ⟨none, T55, _, _, _, _, X55, by decide, by decide, fun _ => rfl, q60, fun fs hr => X55.returnOut hx hret (hb hby d10_24) hr, by rw [e55]; exact ⟨r_25, rfl, N57, K59, sz28, f61, f62, f64, f65⟩⟩
def Q_rm10_20 (Z : State) (a1 : Addr) (a2 : Addr) (a3 : Addr) (b : Addr) (x1 : Addr) (x2 : Addr) (kb : ClassId) (cw : Nat → Nat) (z_cs : Int32) (h0 : Heap) (n0 : Nat) (v : Option Value) (h : Heap) (L : List Loc) : Prop := ∃ (r : Addr), v = none ∧ Fr n0 L ∧ Keep h0 h [a1] ∧ h0.size ≤ r ∧ Fld Z h a1 sk8 "outcomes" sk5 (.ref r) ∧ Exa Z h r sk19 ∧ Fld Z h r sk19 "e0" sk3 (.ref x1) ∧ Fld Z h r sk19 "e1" sk3 (.ref x2)
theorem rm10_20 (l : Launch) (Z : State) (a0 : Array Value) (hw : ∀ d ∈ tables_1, d.before a0 Z = true) (ws : List Jvm.Cond) {cw : Nat → Nat} {z_cs : Int32} (cx : Cx Z cw z_cs) (a1 : Addr) (a2 : Addr) (a3 : Addr) (b : Addr) (x1 : Addr) (x2 : Addr) (kb : ClassId) (h0 : Heap) (n0 : Nat) (O0 : Old Z n0 h0) (G0 : Exa Z h0 a1 sk8) (G1 : Fld Z h0 a1 sk8 "outcomes" sk5 .null) (G2 : Fld Z h0 a1 sk8 "notes" sk5 .null) (G3 : Exa Z h0 a2 sk18) (G4 : Fld Z h0 a2 sk18 "size" "I" (.int 2)) (G5 : Fld Z h0 a2 sk18 sk12 sk6 (.ref b)) (G6 : Arv Z h0 b kb (.object sk14) (10 : Int32) [(.ref x1), (.ref x2), .null, .null, .null, .null, .null, .null, .null, .null] .null) (G7 : Exa Z h0 b sk6) (G8 : Exa Z h0 x1 sk9) (G9 : Exa Z h0 x2 sk9) (G10 : Exa Z h0 a3 sk18) (G11 : Fld Z h0 a3 sk18 "size" "I" (.int 0)) (g_a1 : n0 ≤ a1) :
    OwnMet l ym35 (Jvm.Cond.code ym35 prog_13_method_1_code 3 none :: ws) (own_R 8 2 4 113) #[(.ref a1), (.ref a2), (.ref a3)] Z h0 (Q_rm10_20 Z a1 a2 a3 b x1 x2 kb cw z_cs h0 n0) := by
  refine own_body (plainFor_of_name pn_10) hisR fun p e s m below meth c s₁ hx hby hml hown hnm hret hZ X0 e0 => ?_
  have N0 := Fr.nil n0
  have K0 : Keep h0 h0 [a1] := Keep.refl _ _
  have pre0 : ∀ t, Go p e below s₁ (mkF m 0 #[vR a1, vR a2, vR a3] []) t → Go p e below s₁ (entryFrame m #[(.ref a1), (.ref a2), (.ref a3)] 3) t := fun t k => castTop (ef_10_RRR m a1 a2 a3) k
  have q21 := fun t (kt : Go p e below s₁ (mkF m 1 #[vR a1, vR a2, vR a3] [(.ref a1)]) t) => pre0 t (by
    show Go _ _ _ _ (mkF m 0 #[vR a1, vR a2, vR a3] []) _
    refine XS.aloadN X0.here hx rfl (hb hby d10_0) rfl rfl ?_
    exact kt)
  obtain ⟨_, _, ⟨T22, L22, k22, n22⟩, -, X22, ⟨_, hQ22, l22, y22, z22⟩, st22⟩ := X0.specialBack hx (y := ym1) rfl hown (ow hZ hw 81 rfl) (ow hZ hw 34 rfl) (ow hZ hw 37 rfl) (by decide) (backOf (W := 0) (rm5 l Z a0 hw [] cx a1 h0 n0 O0 ) hZ (ox hw 37 rfl) (ox hw 36 rfl) (by decide) (by decide)) (g := (mkF m 1 #[vR a1, vR a2, vR a3] [(.ref a1)])) rfl (by rw [hml]; rfl) (Steps.refl _) (a := a1) (argsL := []) (rest := []) (lenOf pd_0 rfl) rfl own_le0 (hb hby d10_1) (fun _ _ => ⟨rfl, e0, (by decide : 0 + 0 ≤ _), (by decide : 0 + 0 ≤ _)⟩)
  dsimp only [Pt.U, Pt.locs, Pt.cells, Pt.slots] at X22 l22 y22 z22 st22 hQ22
  subst l22 y22 z22
  obtain ⟨rfl, Nq22, eq22⟩ := hQ22
  have N23 := Fr.app N0 Nq22
  have q24 := fun t (kt : Go p e below T22 (mkF m 5 #[vR a1, vR a2, vR a3] [(.ref a2)]) t) => q21 t (st22.trans (by
    show Go _ _ _ _ (mkF m 4 #[vR a1, vR a2, vR a3] []) _
    refine XS.aloadN X22.here hx rfl (hb hby d10_4) rfl rfl ?_
    exact kt))
  obtain ⟨_, _, ⟨T25, L25, k25, n25⟩, -, X25, ⟨_, hQ25, l25, y25, z25⟩, st25⟩ := Jvm.LawKit.callS X22 hx (y := ym33) hown (ow hZ hw 82 rfl) (ow hZ hw 83 rfl) (ow hZ hw 84 rfl) (ow hZ hw 85 rfl) (by decide) (backOf (W := 0) (rm11_2 l Z a0 hw [] cx a2 b x1 x2 kb h0 n0 O0 G3 G5 G4 G6 G7 G8 G9) hZ (ox hw 85 rfl) (ox hw 84 rfl) (by decide) (by decide)) (g := (mkF m 5 #[vR a1, vR a2, vR a3] [(.ref a2)])) rfl (by rw [hml]; rfl) (argsL := [(.ref a2)]) (rest := []) (lenOf pd_17 rfl) rfl own_le0 (hb hby d10_5) (fun _ _ => ⟨rfl, eq22, (by decide : 0 + 2 ≤ _), (by decide : 0 + 4 ≤ _)⟩)
  dsimp only [Pt.U, Pt.locs, Pt.cells, Pt.slots] at X25 l25 y25 z25 st25 hQ25
  subst l25 y25 z25
  obtain ⟨r_25, rfl, Nq25, Kq25, fr25_0, fq25_0, fq25_1, fq25_2⟩ := hQ25
  have N26 := Fr.app N23 Nq25
  have gg27 : n0 ≤ r_25 := Nat.le_trans (O0.1 ▸ O0.2.1) fr25_0
  have sz28 : h0.size ≤ r_25 := Nat.le_trans K0.1 fr25_0
  have O29 := O0.keep Kq25 all0
  have K30 := K0.trans Kq25 all0
  have f31 := (G10.keep Kq25)
  have f32 := (G11.keep Kq25 nin0)
  have q33 := fun t (kt : Go p e below T25 (mkF m 10 #[vR a1, vR r_25, vR a3] [(.ref a3)]) t) => q24 t (st25 t (by
    show Go _ _ _ _ (mkF m 8 #[vR a1, vR a2, vR a3] [(.ref r_25)]) _
    refine XS.astoreN X25.here hx rfl (hb hby d10_8) rfl rfl (l' := #[vR a1, vR r_25, vR a3]) rfl ?_
    show Go _ _ _ _ (mkF m 9 #[vR a1, vR r_25, vR a3] []) _
    refine XS.aloadN X25.here hx rfl (hb hby d10_9) rfl rfl ?_
    exact kt))
  obtain ⟨_, _, ⟨T34, L34, k34, n34⟩, -, X34, ⟨_, hQ34, l34, y34, z34⟩, st34⟩ := Jvm.LawKit.callS X25 hx (y := ym33) hown (ow hZ hw 82 rfl) (ow hZ hw 83 rfl) (ow hZ hw 84 rfl) (ow hZ hw 85 rfl) (by decide) (backOf (W := 0) (rm11_0 l Z a0 hw [] cx a3 T25.heap n0 O29 f31 f32) hZ (ox hw 85 rfl) (ox hw 84 rfl) (by decide) (by decide)) (g := (mkF m 10 #[vR a1, vR r_25, vR a3] [(.ref a3)])) rfl (by rw [hml]; rfl) (argsL := [(.ref a3)]) (rest := []) (lenOf pd_17 rfl) rfl own_le0 (hb hby d10_10) (fun _ _ => ⟨rfl, rfl, (by decide : 2 + 0 ≤ _), (by decide : 4 + 0 ≤ _)⟩)
  dsimp only [Pt.U, Pt.locs, Pt.cells, Pt.slots] at X34 l34 y34 z34 st34 hQ34
  subst l34 y34 z34
  obtain ⟨rfl, Nq34, eq34⟩ := hQ34
  have N35 := Fr.app N26 Nq34
  have f36 := (G0.keep Kq25)
  have f37 := (G1.keep Kq25 nin0)
  have q38 := fun t (kt : Go p e below T34 (mkF m 16 #[vR a1, vR r_25, vR (cw 15)] [(.ref r_25), (.ref a1)]) t) => q33 t (st34 t (by
    show Go _ _ _ _ (mkF m 13 #[vR a1, vR r_25, vR a3] [(.ref (cw 15))]) _
    refine XS.astoreN X34.here hx rfl (hb hby d10_13) rfl rfl (l' := #[vR a1, vR r_25, vR (cw 15)]) rfl ?_
    show Go _ _ _ _ (mkF m 14 #[vR a1, vR r_25, vR (cw 15)] []) _
    refine XS.aloadN X34.here hx rfl (hb hby d10_14) rfl rfl ?_
    show Go _ _ _ _ (mkF m 15 _ [(.ref a1)]) _
    refine XS.aloadN X34.here hx rfl (hb hby d10_15) rfl rfl ?_
    exact kt))
  obtain ⟨T39, h39, X39, e39, W39, st39⟩ := putF X34 hx hZ hown (host := "") (Or.inl (ox hw 111 rfl)) Via.refl eq34 f37 f36 (Or.inr ⟨(ox hw 112 rfl), rfl, hnm⟩) (ox hw 76 rfl) (ty := (.object sk23)) (by decide) rfl rfl (g := (mkF m 16 #[vR a1, vR r_25, vR (cw 15)] [(.ref r_25), (.ref a1)])) rfl rfl (hb hby d10_16)
  have f40 : Fld Z h39 a1 sk8 "outcomes" sk5 (.ref r_25) := f37.same W39
  have N41 := Fr.snoc X39 N35 g_a1
  have O42 := O29.wr W39 g_a1
  have K43 := K30.wr W39 (Or.inl (List.mem_of_getElem? (i := 0) rfl))
  have f44 := (f36.wr W39)
  have f45 := ((G2.keep Kq25 nin0).other W39 (Or.inr (slot_ne (Or.inr (ox hw 114 rfl)) (Or.inr (ox hw 112 rfl)) (by decide) (t := (.object sk23)) (t' := (.object sk23)) (by decide) (by decide))))
  have q46 := fun t (kt : Go p e below T39 (mkF m 21 #[vR a1, vR r_25, vR (cw 15)] [(.ref (cw 15)), (.ref a1)]) t) => q38 t (st39 t (by
    show Go _ _ _ _ (mkF m 19 #[vR a1, vR r_25, vR (cw 15)] []) _
    refine XS.aloadN X39.here hx rfl (hb hby d10_19) rfl rfl ?_
    show Go _ _ _ _ (mkF m 20 _ [(.ref a1)]) _
    refine XS.aloadN X39.here hx rfl (hb hby d10_20) rfl rfl ?_
    exact kt))
  obtain ⟨T47, h47, X47, e47, W47, st47⟩ := putF X39 hx hZ hown (host := "") (Or.inl (ox hw 113 rfl)) Via.refl e39 f45 f44 (Or.inr ⟨(ox hw 114 rfl), rfl, hnm⟩) (ox hw 76 rfl) (ty := (.object sk23)) (by decide) rfl rfl (g := (mkF m 21 #[vR a1, vR r_25, vR (cw 15)] [(.ref (cw 15)), (.ref a1)])) rfl rfl (hb hby d10_21)
  have f48 : Fld Z h47 a1 sk8 "notes" sk5 (.ref (cw 15)) := f45.same W47
  have N49 := Fr.snoc X47 N41 g_a1
  have O50 := O42.wr W47 g_a1
  have K51 := K43.wr W47 (Or.inl (List.mem_of_getElem? (i := 0) rfl))
  have q52 := fun t (kt : Go p e below T47 (mkF m 24 #[vR a1, vR r_25, vR (cw 15)] []) t) => q46 t (st47 t kt)
  have f53 := (f40.other W47 (Or.inr (slot_ne (Or.inr (ox hw 112 rfl)) (Or.inr (ox hw 114 rfl)) (by decide) (t := (.object sk23)) (t' := (.object sk23)) (by decide) (by decide))))
  have f54 := ((fq25_0.wr W39).wr W47)
  have ne55 : a1 ≠ r_25 := (Nat.ne_of_lt (Nat.lt_of_lt_of_le G0.lt fr25_0))
  have f56 := ((fq25_1.other W39 (Or.inl (Ne.symm ne55))).other W47 (Or.inl (Ne.symm ne55)))
  have f57 := ((fq25_2.other W39 (Or.inl (Ne.symm ne55))).other W47 (Or.inl (Ne.symm ne55)))
  exact ⟨none, T47, _, _, _, _, X47, by decide, by decide, fun _ => rfl, q52, fun fs hr => X47.returnOut hx hret (hb hby d10_24) hr, by rw [e47]; exact ⟨r_25, rfl, N49, K51, sz28, f53, f54, f56, f57⟩⟩
def Q_rm10_21 (Z : State) (a1 : Addr) (a2 : Addr) (a3 : Addr) (b : Addr) (x1 : Addr) (x2 : Addr) (kb : ClassId) (d : Addr) (y1 : Addr) (kd : ClassId) (cw : Nat → Nat) (z_cs : Int32) (h0 : Heap) (n0 : Nat) (v : Option Value) (h : Heap) (L : List Loc) : Prop := ∃ (r : Addr), v = none ∧ Fr n0 L ∧ Keep h0 h [a1] ∧ h0.size ≤ r ∧ Fld Z h a1 sk8 "outcomes" sk5 (.ref r) ∧ Exa Z h r sk19 ∧ Fld Z h r sk19 "e0" sk3 (.ref x1) ∧ Fld Z h r sk19 "e1" sk3 (.ref x2)
theorem rm10_21 (l : Launch) (Z : State) (a0 : Array Value) (hw : ∀ d ∈ tables_1, d.before a0 Z = true) (ws : List Jvm.Cond) {cw : Nat → Nat} {z_cs : Int32} (cx : Cx Z cw z_cs) (a1 : Addr) (a2 : Addr) (a3 : Addr) (b : Addr) (x1 : Addr) (x2 : Addr) (kb : ClassId) (d : Addr) (y1 : Addr) (kd : ClassId) (h0 : Heap) (n0 : Nat) (O0 : Old Z n0 h0) (G0 : Exa Z h0 a1 sk8) (G1 : Fld Z h0 a1 sk8 "outcomes" sk5 .null) (G2 : Fld Z h0 a1 sk8 "notes" sk5 .null) (G3 : Exa Z h0 a2 sk18) (G4 : Fld Z h0 a2 sk18 "size" "I" (.int 2)) (G5 : Fld Z h0 a2 sk18 sk12 sk6 (.ref b)) (G6 : Arv Z h0 b kb (.object sk14) (10 : Int32) [(.ref x1), (.ref x2), .null, .null, .null, .null, .null, .null, .null, .null] .null) (G7 : Exa Z h0 b sk6) (G8 : Exa Z h0 x1 sk9) (G9 : Exa Z h0 x2 sk9) (G10 : Exa Z h0 a3 sk18) (G11 : Fld Z h0 a3 sk18 "size" "I" (.int 1)) (G12 : Fld Z h0 a3 sk18 sk12 sk6 (.ref d)) (G13 : Arv Z h0 d kd (.object sk14) (10 : Int32) [(.ref y1), .null, .null, .null, .null, .null, .null, .null, .null, .null] .null) (G14 : Exa Z h0 d sk6) (G15 : Exa Z h0 y1 sk15) (g_a1 : n0 ≤ a1) :
    OwnMet l ym35 (Jvm.Cond.code ym35 prog_13_method_1_code 3 none :: ws) (own_R 8 4 7 113) #[(.ref a1), (.ref a2), (.ref a3)] Z h0 (Q_rm10_21 Z a1 a2 a3 b x1 x2 kb d y1 kd cw z_cs h0 n0) := by
  refine own_body (plainFor_of_name pn_10) hisR fun p e s m below meth c s₁ hx hby hml hown hnm hret hZ X0 e0 => ?_
  have N0 := Fr.nil n0
  have K0 : Keep h0 h0 [a1] := Keep.refl _ _
  have pre0 : ∀ t, Go p e below s₁ (mkF m 0 #[vR a1, vR a2, vR a3] []) t → Go p e below s₁ (entryFrame m #[(.ref a1), (.ref a2), (.ref a3)] 3) t := fun t k => castTop (ef_10_RRR m a1 a2 a3) k
  have q21 := fun t (kt : Go p e below s₁ (mkF m 1 #[vR a1, vR a2, vR a3] [(.ref a1)]) t) => pre0 t (by
    show Go _ _ _ _ (mkF m 0 #[vR a1, vR a2, vR a3] []) _
    refine XS.aloadN X0.here hx rfl (hb hby d10_0) rfl rfl ?_
    exact kt)
  obtain ⟨_, _, ⟨T22, L22, k22, n22⟩, -, X22, ⟨_, hQ22, l22, y22, z22⟩, st22⟩ := X0.specialBack hx (y := ym1) rfl hown (ow hZ hw 81 rfl) (ow hZ hw 34 rfl) (ow hZ hw 37 rfl) (by decide) (backOf (W := 0) (rm5 l Z a0 hw [] cx a1 h0 n0 O0 ) hZ (ox hw 37 rfl) (ox hw 36 rfl) (by decide) (by decide)) (g := (mkF m 1 #[vR a1, vR a2, vR a3] [(.ref a1)])) rfl (by rw [hml]; rfl) (Steps.refl _) (a := a1) (argsL := []) (rest := []) (lenOf pd_0 rfl) rfl own_le0 (hb hby d10_1) (fun _ _ => ⟨rfl, e0, (by decide : 0 + 0 ≤ _), (by decide : 0 + 0 ≤ _)⟩)
  dsimp only [Pt.U, Pt.locs, Pt.cells, Pt.slots] at X22 l22 y22 z22 st22 hQ22
  subst l22 y22 z22
  obtain ⟨rfl, Nq22, eq22⟩ := hQ22
  have N23 := Fr.app N0 Nq22
  have q24 := fun t (kt : Go p e below T22 (mkF m 5 #[vR a1, vR a2, vR a3] [(.ref a2)]) t) => q21 t (st22.trans (by
    show Go _ _ _ _ (mkF m 4 #[vR a1, vR a2, vR a3] []) _
    refine XS.aloadN X22.here hx rfl (hb hby d10_4) rfl rfl ?_
    exact kt))
  obtain ⟨_, _, ⟨T25, L25, k25, n25⟩, -, X25, ⟨_, hQ25, l25, y25, z25⟩, st25⟩ := Jvm.LawKit.callS X22 hx (y := ym33) hown (ow hZ hw 82 rfl) (ow hZ hw 83 rfl) (ow hZ hw 84 rfl) (ow hZ hw 85 rfl) (by decide) (backOf (W := 0) (rm11_2 l Z a0 hw [] cx a2 b x1 x2 kb h0 n0 O0 G3 G5 G4 G6 G7 G8 G9) hZ (ox hw 85 rfl) (ox hw 84 rfl) (by decide) (by decide)) (g := (mkF m 5 #[vR a1, vR a2, vR a3] [(.ref a2)])) rfl (by rw [hml]; rfl) (argsL := [(.ref a2)]) (rest := []) (lenOf pd_17 rfl) rfl own_le0 (hb hby d10_5) (fun _ _ => ⟨rfl, eq22, (by decide : 0 + 2 ≤ _), (by decide : 0 + 4 ≤ _)⟩)
  dsimp only [Pt.U, Pt.locs, Pt.cells, Pt.slots] at X25 l25 y25 z25 st25 hQ25
  subst l25 y25 z25
  obtain ⟨r_25, rfl, Nq25, Kq25, fr25_0, fq25_0, fq25_1, fq25_2⟩ := hQ25
  have N26 := Fr.app N23 Nq25
  have gg27 : n0 ≤ r_25 := Nat.le_trans (O0.1 ▸ O0.2.1) fr25_0
  have sz28 : h0.size ≤ r_25 := Nat.le_trans K0.1 fr25_0
  have O29 := O0.keep Kq25 all0
  have K30 := K0.trans Kq25 all0
  have f31 := (G10.keep Kq25)
  have f32 := (G12.keep Kq25 nin0)
  have f33 := (G11.keep Kq25 nin0)
  have f34 := (G13.keep Kq25 nin0)
  have f35 := (G14.keep Kq25)
  have f36 := (G15.keep Kq25)
  have q37 := fun t (kt : Go p e below T25 (mkF m 10 #[vR a1, vR r_25, vR a3] [(.ref a3)]) t) => q24 t (st25 t (by
    show Go _ _ _ _ (mkF m 8 #[vR a1, vR a2, vR a3] [(.ref r_25)]) _
    refine XS.astoreN X25.here hx rfl (hb hby d10_8) rfl rfl (l' := #[vR a1, vR r_25, vR a3]) rfl ?_
    show Go _ _ _ _ (mkF m 9 #[vR a1, vR r_25, vR a3] []) _
    refine XS.aloadN X25.here hx rfl (hb hby d10_9) rfl rfl ?_
    exact kt))
  obtain ⟨_, _, ⟨T38, L38, k38, n38⟩, -, X38, ⟨_, hQ38, l38, y38, z38⟩, st38⟩ := Jvm.LawKit.callS X25 hx (y := ym33) hown (ow hZ hw 82 rfl) (ow hZ hw 83 rfl) (ow hZ hw 84 rfl) (ow hZ hw 85 rfl) (by decide) (backOf (W := 0) (rm11_1 l Z a0 hw [] cx a3 (sk15) d y1 kd T25.heap n0 O29 f31 f32 f33 f34 f35 f36 (ox hw 232 rfl)) hZ (ox hw 85 rfl) (ox hw 84 rfl) (by decide) (by decide)) (g := (mkF m 10 #[vR a1, vR r_25, vR a3] [(.ref a3)])) rfl (by rw [hml]; rfl) (argsL := [(.ref a3)]) (rest := []) (lenOf pd_17 rfl) rfl own_le0 (hb hby d10_10) (fun _ _ => ⟨rfl, rfl, (by decide : 2 + 2 ≤ _), (by decide : 4 + 3 ≤ _)⟩)
  dsimp only [Pt.U, Pt.locs, Pt.cells, Pt.slots] at X38 l38 y38 z38 st38 hQ38
  subst l38 y38 z38
  obtain ⟨r_38, rfl, Nq38, Kq38, fr38_0, fq38_0, fq38_1, fq38_2⟩ := hQ38
  have N39 := Fr.app N26 Nq38
  have gg40 : n0 ≤ r_38 := Nat.le_trans (O29.1 ▸ O29.2.1) fr38_0
  have sz41 : h0.size ≤ r_38 := Nat.le_trans K30.1 fr38_0
  have O42 := O29.keep Kq38 all0
  have K43 := K30.trans Kq38 all0
  have f44 := ((G0.keep Kq25).keep Kq38)
  have f45 := ((G1.keep Kq25 nin0).keep Kq38 nin0)
  have q46 := fun t (kt : Go p e below T38 (mkF m 16 #[vR a1, vR r_25, vR r_38] [(.ref r_25), (.ref a1)]) t) => q37 t (st38 t (by
    show Go _ _ _ _ (mkF m 13 #[vR a1, vR r_25, vR a3] [(.ref r_38)]) _
    refine XS.astoreN X38.here hx rfl (hb hby d10_13) rfl rfl (l' := #[vR a1, vR r_25, vR r_38]) rfl ?_
    show Go _ _ _ _ (mkF m 14 #[vR a1, vR r_25, vR r_38] []) _
    refine XS.aloadN X38.here hx rfl (hb hby d10_14) rfl rfl ?_
    show Go _ _ _ _ (mkF m 15 _ [(.ref a1)]) _
    refine XS.aloadN X38.here hx rfl (hb hby d10_15) rfl rfl ?_
    exact kt))
  obtain ⟨T47, h47, X47, e47, W47, st47⟩ := putF X38 hx hZ hown (host := "") (Or.inl (ox hw 111 rfl)) Via.refl rfl f45 f44 (Or.inr ⟨(ox hw 112 rfl), rfl, hnm⟩) (ox hw 76 rfl) (ty := (.object sk23)) (by decide) rfl rfl (g := (mkF m 16 #[vR a1, vR r_25, vR r_38] [(.ref r_25), (.ref a1)])) rfl rfl (hb hby d10_16)
  have f48 : Fld Z h47 a1 sk8 "outcomes" sk5 (.ref r_25) := f45.same W47
  have N49 := Fr.snoc X47 N39 g_a1
  have O50 := O42.wr W47 g_a1
  have K51 := K43.wr W47 (Or.inl (List.mem_of_getElem? (i := 0) rfl))
  have f52 := (f44.wr W47)
  have f53 := (((G2.keep Kq25 nin0).keep Kq38 nin0).other W47 (Or.inr (slot_ne (Or.inr (ox hw 114 rfl)) (Or.inr (ox hw 112 rfl)) (by decide) (t := (.object sk23)) (t' := (.object sk23)) (by decide) (by decide))))
  have q54 := fun t (kt : Go p e below T47 (mkF m 21 #[vR a1, vR r_25, vR r_38] [(.ref r_38), (.ref a1)]) t) => q46 t (st47 t (by
    show Go _ _ _ _ (mkF m 19 #[vR a1, vR r_25, vR r_38] []) _
    refine XS.aloadN X47.here hx rfl (hb hby d10_19) rfl rfl ?_
    show Go _ _ _ _ (mkF m 20 _ [(.ref a1)]) _
    refine XS.aloadN X47.here hx rfl (hb hby d10_20) rfl rfl ?_
    exact kt))
  obtain ⟨T55, h55, X55, e55, W55, st55⟩ := putF X47 hx hZ hown (host := "") (Or.inl (ox hw 113 rfl)) Via.refl e47 f53 f52 (Or.inr ⟨(ox hw 114 rfl), rfl, hnm⟩) (ox hw 76 rfl) (ty := (.object sk23)) (by decide) rfl rfl (g := (mkF m 21 #[vR a1, vR r_25, vR r_38] [(.ref r_38), (.ref a1)])) rfl rfl (hb hby d10_21)
  have f56 : Fld Z h55 a1 sk8 "notes" sk5 (.ref r_38) := f53.same W55
  have N57 := Fr.snoc X55 N49 g_a1
  have O58 := O50.wr W55 g_a1
  have K59 := K51.wr W55 (Or.inl (List.mem_of_getElem? (i := 0) rfl))
  have q60 := fun t (kt : Go p e below T55 (mkF m 24 #[vR a1, vR r_25, vR r_38] []) t) => q54 t (st55 t kt)
  have f61 := (f48.other W55 (Or.inr (slot_ne (Or.inr (ox hw 112 rfl)) (Or.inr (ox hw 114 rfl)) (by decide) (t := (.object sk23)) (t' := (.object sk23)) (by decide) (by decide))))
  have f62 := (((fq25_0.keep Kq38).wr W47).wr W55)
  have ne63 : a1 ≠ r_25 := (Nat.ne_of_lt (Nat.lt_of_lt_of_le G0.lt fr25_0))
  have f64 := (((fq25_1.keep Kq38 nin0).other W47 (Or.inl (Ne.symm ne63))).other W55 (Or.inl (Ne.symm ne63)))
  have f65 := (((fq25_2.keep Kq38 nin0).other W47 (Or.inl (Ne.symm ne63))).other W55 (Or.inl (Ne.symm ne63)))
  exact ⟨none, T55, _, _, _, _, X55, by decide, by decide, fun _ => rfl, q60, fun fs hr => X55.returnOut hx hret (hb hby d10_24) hr, by rw [e55]; exact ⟨r_25, rfl, N57, K59, sz28, f61, f62, f64, f65⟩⟩
def Q_rm10_30 (Z : State) (a1 : Addr) (a2 : Addr) (a3 : Addr) (b : Addr) (x1 : Addr) (x2 : Addr) (x3 : Addr) (kb : ClassId) (cw : Nat → Nat) (z_cs : Int32) (h0 : Heap) (n0 : Nat) (v : Option Value) (h : Heap) (L : List Loc) : Prop := ∃ (r : Addr) (ra : Addr) (kr : ClassId), v = none ∧ Fr n0 L ∧ Keep h0 h [a1] ∧ h0.size ≤ r ∧ h0.size ≤ ra ∧ Fld Z h a1 sk8 "outcomes" sk5 (.ref r) ∧ Exa Z h r sk21 ∧ Fld Z h r sk21 "elements" sk6 (.ref ra) ∧ Arv Z h ra kr (.object sk14) (3 : Int32) [(.ref x1), (.ref x2), (.ref x3)] .null
theorem rm10_30 (l : Launch) (Z : State) (a0 : Array Value) (hw : ∀ d ∈ tables_1, d.before a0 Z = true) (ws : List Jvm.Cond) {cw : Nat → Nat} {z_cs : Int32} (cx : Cx Z cw z_cs) (a1 : Addr) (a2 : Addr) (a3 : Addr) (b : Addr) (x1 : Addr) (x2 : Addr) (x3 : Addr) (kb : ClassId) (h0 : Heap) (n0 : Nat) (O0 : Old Z n0 h0) (G0 : Exa Z h0 a1 sk8) (G1 : Fld Z h0 a1 sk8 "outcomes" sk5 .null) (G2 : Fld Z h0 a1 sk8 "notes" sk5 .null) (G3 : Exa Z h0 a2 sk18) (G4 : Fld Z h0 a2 sk18 "size" "I" (.int 3)) (G5 : Fld Z h0 a2 sk18 sk12 sk6 (.ref b)) (G6 : Arv Z h0 b kb (.object sk14) (10 : Int32) [(.ref x1), (.ref x2), (.ref x3), .null, .null, .null, .null, .null, .null, .null] .null) (G7 : Exa Z h0 b sk6) (G8 : Exa Z h0 x1 sk9) (G9 : Exa Z h0 x2 sk9) (G10 : Exa Z h0 x3 sk9) (G11 : Exa Z h0 a3 sk18) (G12 : Fld Z h0 a3 sk18 "size" "I" (.int 0)) (g_a1 : n0 ≤ a1) :
    OwnMet l ym35 (Jvm.Cond.code ym35 prog_13_method_1_code 3 none :: ws) (own_R 9 3 8 115) #[(.ref a1), (.ref a2), (.ref a3)] Z h0 (Q_rm10_30 Z a1 a2 a3 b x1 x2 x3 kb cw z_cs h0 n0) := by
  refine own_body (plainFor_of_name pn_10) hisR fun p e s m below meth c s₁ hx hby hml hown hnm hret hZ X0 e0 => ?_
  have N0 := Fr.nil n0
  have K0 : Keep h0 h0 [a1] := Keep.refl _ _
  have pre0 : ∀ t, Go p e below s₁ (mkF m 0 #[vR a1, vR a2, vR a3] []) t → Go p e below s₁ (entryFrame m #[(.ref a1), (.ref a2), (.ref a3)] 3) t := fun t k => castTop (ef_10_RRR m a1 a2 a3) k
  have q21 := fun t (kt : Go p e below s₁ (mkF m 1 #[vR a1, vR a2, vR a3] [(.ref a1)]) t) => pre0 t (by
    show Go _ _ _ _ (mkF m 0 #[vR a1, vR a2, vR a3] []) _
    refine XS.aloadN X0.here hx rfl (hb hby d10_0) rfl rfl ?_
    exact kt)
  obtain ⟨_, _, ⟨T22, L22, k22, n22⟩, -, X22, ⟨_, hQ22, l22, y22, z22⟩, st22⟩ := X0.specialBack hx (y := ym1) rfl hown (ow hZ hw 81 rfl) (ow hZ hw 34 rfl) (ow hZ hw 37 rfl) (by decide) (backOf (W := 0) (rm5 l Z a0 hw [] cx a1 h0 n0 O0 ) hZ (ox hw 37 rfl) (ox hw 36 rfl) (by decide) (by decide)) (g := (mkF m 1 #[vR a1, vR a2, vR a3] [(.ref a1)])) rfl (by rw [hml]; rfl) (Steps.refl _) (a := a1) (argsL := []) (rest := []) (lenOf pd_0 rfl) rfl own_le0 (hb hby d10_1) (fun _ _ => ⟨rfl, e0, (by decide : 0 + 0 ≤ _), (by decide : 0 + 0 ≤ _)⟩)
  dsimp only [Pt.U, Pt.locs, Pt.cells, Pt.slots] at X22 l22 y22 z22 st22 hQ22
  subst l22 y22 z22
  obtain ⟨rfl, Nq22, eq22⟩ := hQ22
  have N23 := Fr.app N0 Nq22
  have q24 := fun t (kt : Go p e below T22 (mkF m 5 #[vR a1, vR a2, vR a3] [(.ref a2)]) t) => q21 t (st22.trans (by
    show Go _ _ _ _ (mkF m 4 #[vR a1, vR a2, vR a3] []) _
    refine XS.aloadN X22.here hx rfl (hb hby d10_4) rfl rfl ?_
    exact kt))
  obtain ⟨_, _, ⟨T25, L25, k25, n25⟩, -, X25, ⟨_, hQ25, l25, y25, z25⟩, st25⟩ := Jvm.LawKit.callS X22 hx (y := ym33) hown (ow hZ hw 82 rfl) (ow hZ hw 83 rfl) (ow hZ hw 84 rfl) (ow hZ hw 85 rfl) (by decide) (backOf (W := 0) (rm11_3 l Z a0 hw [] cx a2 b x1 x2 x3 kb h0 n0 O0 G3 G5 G4 G6 G7 G8 G9 G10) hZ (ox hw 85 rfl) (ox hw 84 rfl) (by decide) (by decide)) (g := (mkF m 5 #[vR a1, vR a2, vR a3] [(.ref a2)])) rfl (by rw [hml]; rfl) (argsL := [(.ref a2)]) (rest := []) (lenOf pd_17 rfl) rfl own_le0 (hb hby d10_5) (fun _ _ => ⟨rfl, eq22, (by decide : 0 + 3 ≤ _), (by decide : 0 + 8 ≤ _)⟩)
  dsimp only [Pt.U, Pt.locs, Pt.cells, Pt.slots] at X25 l25 y25 z25 st25 hQ25
  subst l25 y25 z25
  obtain ⟨r_25, ra_25, kr_25, rfl, Nq25, Kq25, fr25_0, fr25_1, fq25_0, fq25_1, fq25_2⟩ := hQ25
  have N26 := Fr.app N23 Nq25
  have gg27 : n0 ≤ r_25 := Nat.le_trans (O0.1 ▸ O0.2.1) fr25_0
  have sz28 : h0.size ≤ r_25 := Nat.le_trans K0.1 fr25_0
  have gg29 : n0 ≤ ra_25 := Nat.le_trans (O0.1 ▸ O0.2.1) fr25_1
  have sz30 : h0.size ≤ ra_25 := Nat.le_trans K0.1 fr25_1
  have O31 := O0.keep Kq25 all0
  have K32 := K0.trans Kq25 all0
  have f33 := (G11.keep Kq25)
  have f34 := (G12.keep Kq25 nin0)
  have q35 := fun t (kt : Go p e below T25 (mkF m 10 #[vR a1, vR r_25, vR a3] [(.ref a3)]) t) => q24 t (st25 t (by
    show Go _ _ _ _ (mkF m 8 #[vR a1, vR a2, vR a3] [(.ref r_25)]) _
    refine XS.astoreN X25.here hx rfl (hb hby d10_8) rfl rfl (l' := #[vR a1, vR r_25, vR a3]) rfl ?_
    show Go _ _ _ _ (mkF m 9 #[vR a1, vR r_25, vR a3] []) _
    refine XS.aloadN X25.here hx rfl (hb hby d10_9) rfl rfl ?_
    exact kt))
  obtain ⟨_, _, ⟨T36, L36, k36, n36⟩, -, X36, ⟨_, hQ36, l36, y36, z36⟩, st36⟩ := Jvm.LawKit.callS X25 hx (y := ym33) hown (ow hZ hw 82 rfl) (ow hZ hw 83 rfl) (ow hZ hw 84 rfl) (ow hZ hw 85 rfl) (by decide) (backOf (W := 0) (rm11_0 l Z a0 hw [] cx a3 T25.heap n0 O31 f33 f34) hZ (ox hw 85 rfl) (ox hw 84 rfl) (by decide) (by decide)) (g := (mkF m 10 #[vR a1, vR r_25, vR a3] [(.ref a3)])) rfl (by rw [hml]; rfl) (argsL := [(.ref a3)]) (rest := []) (lenOf pd_17 rfl) rfl own_le0 (hb hby d10_10) (fun _ _ => ⟨rfl, rfl, (by decide : 3 + 0 ≤ _), (by decide : 8 + 0 ≤ _)⟩)
  dsimp only [Pt.U, Pt.locs, Pt.cells, Pt.slots] at X36 l36 y36 z36 st36 hQ36
  subst l36 y36 z36
  obtain ⟨rfl, Nq36, eq36⟩ := hQ36
  have N37 := Fr.app N26 Nq36
  have f38 := (G0.keep Kq25)
  have f39 := (G1.keep Kq25 nin0)
  have q40 := fun t (kt : Go p e below T36 (mkF m 16 #[vR a1, vR r_25, vR (cw 15)] [(.ref r_25), (.ref a1)]) t) => q35 t (st36 t (by
    show Go _ _ _ _ (mkF m 13 #[vR a1, vR r_25, vR a3] [(.ref (cw 15))]) _
    refine XS.astoreN X36.here hx rfl (hb hby d10_13) rfl rfl (l' := #[vR a1, vR r_25, vR (cw 15)]) rfl ?_
    show Go _ _ _ _ (mkF m 14 #[vR a1, vR r_25, vR (cw 15)] []) _
    refine XS.aloadN X36.here hx rfl (hb hby d10_14) rfl rfl ?_
    show Go _ _ _ _ (mkF m 15 _ [(.ref a1)]) _
    refine XS.aloadN X36.here hx rfl (hb hby d10_15) rfl rfl ?_
    exact kt))
  obtain ⟨T41, h41, X41, e41, W41, st41⟩ := putF X36 hx hZ hown (host := "") (Or.inl (ox hw 111 rfl)) Via.refl eq36 f39 f38 (Or.inr ⟨(ox hw 112 rfl), rfl, hnm⟩) (ox hw 76 rfl) (ty := (.object sk23)) (by decide) rfl rfl (g := (mkF m 16 #[vR a1, vR r_25, vR (cw 15)] [(.ref r_25), (.ref a1)])) rfl rfl (hb hby d10_16)
  have f42 : Fld Z h41 a1 sk8 "outcomes" sk5 (.ref r_25) := f39.same W41
  have N43 := Fr.snoc X41 N37 g_a1
  have O44 := O31.wr W41 g_a1
  have K45 := K32.wr W41 (Or.inl (List.mem_of_getElem? (i := 0) rfl))
  have f46 := (f38.wr W41)
  have f47 := ((G2.keep Kq25 nin0).other W41 (Or.inr (slot_ne (Or.inr (ox hw 114 rfl)) (Or.inr (ox hw 112 rfl)) (by decide) (t := (.object sk23)) (t' := (.object sk23)) (by decide) (by decide))))
  have q48 := fun t (kt : Go p e below T41 (mkF m 21 #[vR a1, vR r_25, vR (cw 15)] [(.ref (cw 15)), (.ref a1)]) t) => q40 t (st41 t (by
    show Go _ _ _ _ (mkF m 19 #[vR a1, vR r_25, vR (cw 15)] []) _
    refine XS.aloadN X41.here hx rfl (hb hby d10_19) rfl rfl ?_
    show Go _ _ _ _ (mkF m 20 _ [(.ref a1)]) _
    refine XS.aloadN X41.here hx rfl (hb hby d10_20) rfl rfl ?_
    exact kt))
  obtain ⟨T49, h49, X49, e49, W49, st49⟩ := putF X41 hx hZ hown (host := "") (Or.inl (ox hw 113 rfl)) Via.refl e41 f47 f46 (Or.inr ⟨(ox hw 114 rfl), rfl, hnm⟩) (ox hw 76 rfl) (ty := (.object sk23)) (by decide) rfl rfl (g := (mkF m 21 #[vR a1, vR r_25, vR (cw 15)] [(.ref (cw 15)), (.ref a1)])) rfl rfl (hb hby d10_21)
  have f50 : Fld Z h49 a1 sk8 "notes" sk5 (.ref (cw 15)) := f47.same W49
  have N51 := Fr.snoc X49 N43 g_a1
  have O52 := O44.wr W49 g_a1
  have K53 := K45.wr W49 (Or.inl (List.mem_of_getElem? (i := 0) rfl))
  have q54 := fun t (kt : Go p e below T49 (mkF m 24 #[vR a1, vR r_25, vR (cw 15)] []) t) => q48 t (st49 t kt)
  have f55 := (f42.other W49 (Or.inr (slot_ne (Or.inr (ox hw 112 rfl)) (Or.inr (ox hw 114 rfl)) (by decide) (t := (.object sk23)) (t' := (.object sk23)) (by decide) (by decide))))
  have f56 := ((fq25_0.wr W41).wr W49)
  have ne57 : a1 ≠ r_25 := (Nat.ne_of_lt (Nat.lt_of_lt_of_le G0.lt fr25_0))
  have f58 := ((fq25_1.other W41 (Or.inl (Ne.symm ne57))).other W49 (Or.inl (Ne.symm ne57)))
  have ne59 : a1 ≠ ra_25 := (Nat.ne_of_lt (Nat.lt_of_lt_of_le G0.lt fr25_1))
  have f60 := ((fq25_2.other W41 (Ne.symm ne59)).other W49 (Ne.symm ne59))
  exact ⟨none, T49, _, _, _, _, X49, by decide, by decide, fun _ => rfl, q54, fun fs hr => X49.returnOut hx hret (hb hby d10_24) hr, by rw [e49]; exact ⟨r_25, ra_25, kr_25, rfl, N51, K53, sz28, sz30, f55, f56, f58, f60⟩⟩
def Q_rm10_31 (Z : State) (a1 : Addr) (a2 : Addr) (a3 : Addr) (b : Addr) (x1 : Addr) (x2 : Addr) (x3 : Addr) (kb : ClassId) (d : Addr) (y1 : Addr) (kd : ClassId) (cw : Nat → Nat) (z_cs : Int32) (h0 : Heap) (n0 : Nat) (v : Option Value) (h : Heap) (L : List Loc) : Prop := ∃ (r : Addr) (ra : Addr) (kr : ClassId), v = none ∧ Fr n0 L ∧ Keep h0 h [a1] ∧ h0.size ≤ r ∧ h0.size ≤ ra ∧ Fld Z h a1 sk8 "outcomes" sk5 (.ref r) ∧ Exa Z h r sk21 ∧ Fld Z h r sk21 "elements" sk6 (.ref ra) ∧ Arv Z h ra kr (.object sk14) (3 : Int32) [(.ref x1), (.ref x2), (.ref x3)] .null
theorem rm10_31 (l : Launch) (Z : State) (a0 : Array Value) (hw : ∀ d ∈ tables_1, d.before a0 Z = true) (ws : List Jvm.Cond) {cw : Nat → Nat} {z_cs : Int32} (cx : Cx Z cw z_cs) (a1 : Addr) (a2 : Addr) (a3 : Addr) (b : Addr) (x1 : Addr) (x2 : Addr) (x3 : Addr) (kb : ClassId) (d : Addr) (y1 : Addr) (kd : ClassId) (h0 : Heap) (n0 : Nat) (O0 : Old Z n0 h0) (G0 : Exa Z h0 a1 sk8) (G1 : Fld Z h0 a1 sk8 "outcomes" sk5 .null) (G2 : Fld Z h0 a1 sk8 "notes" sk5 .null) (G3 : Exa Z h0 a2 sk18) (G4 : Fld Z h0 a2 sk18 "size" "I" (.int 3)) (G5 : Fld Z h0 a2 sk18 sk12 sk6 (.ref b)) (G6 : Arv Z h0 b kb (.object sk14) (10 : Int32) [(.ref x1), (.ref x2), (.ref x3), .null, .null, .null, .null, .null, .null, .null] .null) (G7 : Exa Z h0 b sk6) (G8 : Exa Z h0 x1 sk9) (G9 : Exa Z h0 x2 sk9) (G10 : Exa Z h0 x3 sk9) (G11 : Exa Z h0 a3 sk18) (G12 : Fld Z h0 a3 sk18 "size" "I" (.int 1)) (G13 : Fld Z h0 a3 sk18 sk12 sk6 (.ref d)) (G14 : Arv Z h0 d kd (.object sk14) (10 : Int32) [(.ref y1), .null, .null, .null, .null, .null, .null, .null, .null, .null] .null) (G15 : Exa Z h0 d sk6) (G16 : Exa Z h0 y1 sk15) (g_a1 : n0 ≤ a1) :
    OwnMet l ym35 (Jvm.Cond.code ym35 prog_13_method_1_code 3 none :: ws) (own_R 9 5 11 115) #[(.ref a1), (.ref a2), (.ref a3)] Z h0 (Q_rm10_31 Z a1 a2 a3 b x1 x2 x3 kb d y1 kd cw z_cs h0 n0) := by
  refine own_body (plainFor_of_name pn_10) hisR fun p e s m below meth c s₁ hx hby hml hown hnm hret hZ X0 e0 => ?_
  have N0 := Fr.nil n0
  have K0 : Keep h0 h0 [a1] := Keep.refl _ _
  have pre0 : ∀ t, Go p e below s₁ (mkF m 0 #[vR a1, vR a2, vR a3] []) t → Go p e below s₁ (entryFrame m #[(.ref a1), (.ref a2), (.ref a3)] 3) t := fun t k => castTop (ef_10_RRR m a1 a2 a3) k
  have q21 := fun t (kt : Go p e below s₁ (mkF m 1 #[vR a1, vR a2, vR a3] [(.ref a1)]) t) => pre0 t (by
    show Go _ _ _ _ (mkF m 0 #[vR a1, vR a2, vR a3] []) _
    refine XS.aloadN X0.here hx rfl (hb hby d10_0) rfl rfl ?_
    exact kt)
  obtain ⟨_, _, ⟨T22, L22, k22, n22⟩, -, X22, ⟨_, hQ22, l22, y22, z22⟩, st22⟩ := X0.specialBack hx (y := ym1) rfl hown (ow hZ hw 81 rfl) (ow hZ hw 34 rfl) (ow hZ hw 37 rfl) (by decide) (backOf (W := 0) (rm5 l Z a0 hw [] cx a1 h0 n0 O0 ) hZ (ox hw 37 rfl) (ox hw 36 rfl) (by decide) (by decide)) (g := (mkF m 1 #[vR a1, vR a2, vR a3] [(.ref a1)])) rfl (by rw [hml]; rfl) (Steps.refl _) (a := a1) (argsL := []) (rest := []) (lenOf pd_0 rfl) rfl own_le0 (hb hby d10_1) (fun _ _ => ⟨rfl, e0, (by decide : 0 + 0 ≤ _), (by decide : 0 + 0 ≤ _)⟩)
  dsimp only [Pt.U, Pt.locs, Pt.cells, Pt.slots] at X22 l22 y22 z22 st22 hQ22
  subst l22 y22 z22
  obtain ⟨rfl, Nq22, eq22⟩ := hQ22
  have N23 := Fr.app N0 Nq22
  have q24 := fun t (kt : Go p e below T22 (mkF m 5 #[vR a1, vR a2, vR a3] [(.ref a2)]) t) => q21 t (st22.trans (by
    show Go _ _ _ _ (mkF m 4 #[vR a1, vR a2, vR a3] []) _
    refine XS.aloadN X22.here hx rfl (hb hby d10_4) rfl rfl ?_
    exact kt))
  obtain ⟨_, _, ⟨T25, L25, k25, n25⟩, -, X25, ⟨_, hQ25, l25, y25, z25⟩, st25⟩ := Jvm.LawKit.callS X22 hx (y := ym33) hown (ow hZ hw 82 rfl) (ow hZ hw 83 rfl) (ow hZ hw 84 rfl) (ow hZ hw 85 rfl) (by decide) (backOf (W := 0) (rm11_3 l Z a0 hw [] cx a2 b x1 x2 x3 kb h0 n0 O0 G3 G5 G4 G6 G7 G8 G9 G10) hZ (ox hw 85 rfl) (ox hw 84 rfl) (by decide) (by decide)) (g := (mkF m 5 #[vR a1, vR a2, vR a3] [(.ref a2)])) rfl (by rw [hml]; rfl) (argsL := [(.ref a2)]) (rest := []) (lenOf pd_17 rfl) rfl own_le0 (hb hby d10_5) (fun _ _ => ⟨rfl, eq22, (by decide : 0 + 3 ≤ _), (by decide : 0 + 8 ≤ _)⟩)
  dsimp only [Pt.U, Pt.locs, Pt.cells, Pt.slots] at X25 l25 y25 z25 st25 hQ25
  subst l25 y25 z25
  obtain ⟨r_25, ra_25, kr_25, rfl, Nq25, Kq25, fr25_0, fr25_1, fq25_0, fq25_1, fq25_2⟩ := hQ25
  have N26 := Fr.app N23 Nq25
  have gg27 : n0 ≤ r_25 := Nat.le_trans (O0.1 ▸ O0.2.1) fr25_0
  have sz28 : h0.size ≤ r_25 := Nat.le_trans K0.1 fr25_0
  have gg29 : n0 ≤ ra_25 := Nat.le_trans (O0.1 ▸ O0.2.1) fr25_1
  have sz30 : h0.size ≤ ra_25 := Nat.le_trans K0.1 fr25_1
  have O31 := O0.keep Kq25 all0
  have K32 := K0.trans Kq25 all0
  have f33 := (G11.keep Kq25)
  have f34 := (G13.keep Kq25 nin0)
  have f35 := (G12.keep Kq25 nin0)
  have f36 := (G14.keep Kq25 nin0)
  have f37 := (G15.keep Kq25)
  have f38 := (G16.keep Kq25)
  have q39 := fun t (kt : Go p e below T25 (mkF m 10 #[vR a1, vR r_25, vR a3] [(.ref a3)]) t) => q24 t (st25 t (by
    show Go _ _ _ _ (mkF m 8 #[vR a1, vR a2, vR a3] [(.ref r_25)]) _
    refine XS.astoreN X25.here hx rfl (hb hby d10_8) rfl rfl (l' := #[vR a1, vR r_25, vR a3]) rfl ?_
    show Go _ _ _ _ (mkF m 9 #[vR a1, vR r_25, vR a3] []) _
    refine XS.aloadN X25.here hx rfl (hb hby d10_9) rfl rfl ?_
    exact kt))
  obtain ⟨_, _, ⟨T40, L40, k40, n40⟩, -, X40, ⟨_, hQ40, l40, y40, z40⟩, st40⟩ := Jvm.LawKit.callS X25 hx (y := ym33) hown (ow hZ hw 82 rfl) (ow hZ hw 83 rfl) (ow hZ hw 84 rfl) (ow hZ hw 85 rfl) (by decide) (backOf (W := 0) (rm11_1 l Z a0 hw [] cx a3 (sk15) d y1 kd T25.heap n0 O31 f33 f34 f35 f36 f37 f38 (ox hw 232 rfl)) hZ (ox hw 85 rfl) (ox hw 84 rfl) (by decide) (by decide)) (g := (mkF m 10 #[vR a1, vR r_25, vR a3] [(.ref a3)])) rfl (by rw [hml]; rfl) (argsL := [(.ref a3)]) (rest := []) (lenOf pd_17 rfl) rfl own_le0 (hb hby d10_10) (fun _ _ => ⟨rfl, rfl, (by decide : 3 + 2 ≤ _), (by decide : 8 + 3 ≤ _)⟩)
  dsimp only [Pt.U, Pt.locs, Pt.cells, Pt.slots] at X40 l40 y40 z40 st40 hQ40
  subst l40 y40 z40
  obtain ⟨r_40, rfl, Nq40, Kq40, fr40_0, fq40_0, fq40_1, fq40_2⟩ := hQ40
  have N41 := Fr.app N26 Nq40
  have gg42 : n0 ≤ r_40 := Nat.le_trans (O31.1 ▸ O31.2.1) fr40_0
  have sz43 : h0.size ≤ r_40 := Nat.le_trans K32.1 fr40_0
  have O44 := O31.keep Kq40 all0
  have K45 := K32.trans Kq40 all0
  have f46 := ((G0.keep Kq25).keep Kq40)
  have f47 := ((G1.keep Kq25 nin0).keep Kq40 nin0)
  have q48 := fun t (kt : Go p e below T40 (mkF m 16 #[vR a1, vR r_25, vR r_40] [(.ref r_25), (.ref a1)]) t) => q39 t (st40 t (by
    show Go _ _ _ _ (mkF m 13 #[vR a1, vR r_25, vR a3] [(.ref r_40)]) _
    refine XS.astoreN X40.here hx rfl (hb hby d10_13) rfl rfl (l' := #[vR a1, vR r_25, vR r_40]) rfl ?_
    show Go _ _ _ _ (mkF m 14 #[vR a1, vR r_25, vR r_40] []) _
    refine XS.aloadN X40.here hx rfl (hb hby d10_14) rfl rfl ?_
    show Go _ _ _ _ (mkF m 15 _ [(.ref a1)]) _
    refine XS.aloadN X40.here hx rfl (hb hby d10_15) rfl rfl ?_
    exact kt))
  obtain ⟨T49, h49, X49, e49, W49, st49⟩ := putF X40 hx hZ hown (host := "") (Or.inl (ox hw 111 rfl)) Via.refl rfl f47 f46 (Or.inr ⟨(ox hw 112 rfl), rfl, hnm⟩) (ox hw 76 rfl) (ty := (.object sk23)) (by decide) rfl rfl (g := (mkF m 16 #[vR a1, vR r_25, vR r_40] [(.ref r_25), (.ref a1)])) rfl rfl (hb hby d10_16)
  have f50 : Fld Z h49 a1 sk8 "outcomes" sk5 (.ref r_25) := f47.same W49
  have N51 := Fr.snoc X49 N41 g_a1
  have O52 := O44.wr W49 g_a1
  have K53 := K45.wr W49 (Or.inl (List.mem_of_getElem? (i := 0) rfl))
  have f54 := (f46.wr W49)
  have f55 := (((G2.keep Kq25 nin0).keep Kq40 nin0).other W49 (Or.inr (slot_ne (Or.inr (ox hw 114 rfl)) (Or.inr (ox hw 112 rfl)) (by decide) (t := (.object sk23)) (t' := (.object sk23)) (by decide) (by decide))))
  have q56 := fun t (kt : Go p e below T49 (mkF m 21 #[vR a1, vR r_25, vR r_40] [(.ref r_40), (.ref a1)]) t) => q48 t (st49 t (by
    show Go _ _ _ _ (mkF m 19 #[vR a1, vR r_25, vR r_40] []) _
    refine XS.aloadN X49.here hx rfl (hb hby d10_19) rfl rfl ?_
    show Go _ _ _ _ (mkF m 20 _ [(.ref a1)]) _
    refine XS.aloadN X49.here hx rfl (hb hby d10_20) rfl rfl ?_
    exact kt))
  obtain ⟨T57, h57, X57, e57, W57, st57⟩ := putF X49 hx hZ hown (host := "") (Or.inl (ox hw 113 rfl)) Via.refl e49 f55 f54 (Or.inr ⟨(ox hw 114 rfl), rfl, hnm⟩) (ox hw 76 rfl) (ty := (.object sk23)) (by decide) rfl rfl (g := (mkF m 21 #[vR a1, vR r_25, vR r_40] [(.ref r_40), (.ref a1)])) rfl rfl (hb hby d10_21)
  have f58 : Fld Z h57 a1 sk8 "notes" sk5 (.ref r_40) := f55.same W57
  have N59 := Fr.snoc X57 N51 g_a1
  have O60 := O52.wr W57 g_a1
  have K61 := K53.wr W57 (Or.inl (List.mem_of_getElem? (i := 0) rfl))
  have q62 := fun t (kt : Go p e below T57 (mkF m 24 #[vR a1, vR r_25, vR r_40] []) t) => q56 t (st57 t kt)
  have f63 := (f50.other W57 (Or.inr (slot_ne (Or.inr (ox hw 112 rfl)) (Or.inr (ox hw 114 rfl)) (by decide) (t := (.object sk23)) (t' := (.object sk23)) (by decide) (by decide))))
  have f64 := (((fq25_0.keep Kq40).wr W49).wr W57)
  have ne65 : a1 ≠ r_25 := (Nat.ne_of_lt (Nat.lt_of_lt_of_le G0.lt fr25_0))
  have f66 := (((fq25_1.keep Kq40 nin0).other W49 (Or.inl (Ne.symm ne65))).other W57 (Or.inl (Ne.symm ne65)))
  have ne67 : a1 ≠ ra_25 := (Nat.ne_of_lt (Nat.lt_of_lt_of_le G0.lt fr25_1))
  have f68 := (((fq25_2.keep Kq40 nin0).other W49 (Ne.symm ne67)).other W57 (Ne.symm ne67))
  exact ⟨none, T57, _, _, _, _, X57, by decide, by decide, fun _ => rfl, q62, fun fs hr => X57.returnOut hx hret (hb hby d10_24) hr, by rw [e57]; exact ⟨r_25, ra_25, kr_25, rfl, N59, K61, sz28, sz30, f63, f64, f66, f68⟩⟩
theorem ef_18_RRI (m : MethodId) (x0 : Addr) (x1 : Addr) (x2 : Int32) : entryFrame m #[(.ref x0), (.ref x1), (.int x2)] 3 = mkF m 0 #[.val (.ref x0), .val (.ref x1), .val (.int x2)] [] := by first | (simp [entryFrame, mkF, argsToLocals, Value.category]; done) | rfl
theorem pn_18 : plainName "java/util/ImmutableCollections$ListItr" = true := by first | (simp [plainName, overriddenIn]; done) | decide +kernel
theorem d18_0 : decode jdk_53_method_1_code 0 = .ok (.aload_n 0, 1) := by decide +kernel
theorem d18_1 : decode jdk_53_method_1_code 1 = .ok (.invokespecial 1, 3) := by decide +kernel
theorem d18_4 : decode jdk_53_method_1_code 4 = .ok (.aload_n 0, 1) := by decide +kernel
theorem d18_5 : decode jdk_53_method_1_code 5 = .ok (.aload_n 1, 1) := by decide +kernel
theorem d18_6 : decode jdk_53_method_1_code 6 = .ok (.putfield 7, 3) := by decide +kernel
theorem d18_9 : decode jdk_53_method_1_code 9 = .ok (.aload_n 0, 1) := by decide +kernel
theorem d18_10 : decode jdk_53_method_1_code 10 = .ok (.iload_n 2, 1) := by decide +kernel
theorem d18_11 : decode jdk_53_method_1_code 11 = .ok (.putfield 13, 3) := by decide +kernel
theorem d18_14 : decode jdk_53_method_1_code 14 = .ok (.aload_n 0, 1) := by decide +kernel
theorem d18_15 : decode jdk_53_method_1_code 15 = .ok (.iconst 0, 1) := by decide +kernel
theorem d18_16 : decode jdk_53_method_1_code 16 = .ok (.putfield 17, 3) := by decide +kernel
theorem d18_19 : decode jdk_53_method_1_code 19 = .ok (.aload_n 0, 1) := by decide +kernel
theorem d18_20 : decode jdk_53_method_1_code 20 = .ok (.iconst 0, 1) := by decide +kernel
theorem d18_21 : decode jdk_53_method_1_code 21 = .ok (.putfield 20, 3) := by decide +kernel
theorem d18_24 : decode jdk_53_method_1_code 24 = .ok (.return_, 1) := by decide +kernel
def Q_rm18 (Z : State) (a1 : Addr) (a2 : Addr) (p3 : Int32) (cw : Nat → Nat) (z_cs : Int32) (h0 : Heap) (n0 : Nat) (v : Option Value) (h : Heap) (L : List Loc) : Prop := v = none ∧ Fr n0 L ∧ Keep h0 h [a1] ∧ Fld Z h a1 sk20 "list" sk5 (.ref a2) ∧ Fld Z h a1 sk20 "size" "I" (.int p3) ∧ Fld Z h a1 sk20 "cursor" "I" (.int 0)
theorem rm18 (l : Launch) (Z : State) (a0 : Array Value) (hw : ∀ d ∈ tables_1, d.before a0 Z = true) (ws : List Jvm.Cond) {cw : Nat → Nat} {z_cs : Int32} (cx : Cx Z cw z_cs) (a1 : Addr) (a2 : Addr) (p3 : Int32) (h0 : Heap) (n0 : Nat) (O0 : Old Z n0 h0) (G0 : Exa Z h0 a1 sk20) (G1 : Fld Z h0 a1 sk20 "list" sk5 .null) (G2 : Fld Z h0 a1 sk20 "size" "I" (.int 0)) (G3 : Fld Z h0 a1 sk20 "cursor" "I" (.int 0)) (G4 : Fld Z h0 a1 sk20 sk13 "Z" (.int 0)) (g_a1 : n0 ≤ a1) :
    OwnMet l ym36 (Jvm.Cond.code ym36 jdk_53_method_1_code 3 none :: ws) (own_R 1 0 0 12) #[(.ref a1), (.ref a2), (.int p3)] Z h0 (Q_rm18 Z a1 a2 p3 cw z_cs h0 n0) := by
  refine own_body (plainFor_of_name pn_18) hisR fun p e s m below meth c s₁ hx hby hml hown hnm hret hZ X0 e0 => ?_
  have N0 := Fr.nil n0
  have K0 : Keep h0 h0 [a1] := Keep.refl _ _
  have pre0 : ∀ t, Go p e below s₁ (mkF m 0 #[vR a1, vR a2, vI p3] []) t → Go p e below s₁ (entryFrame m #[(.ref a1), (.ref a2), (.int p3)] 3) t := fun t k => castTop (ef_18_RRI m a1 a2 p3) k
  have q21 := fun t (kt : Go p e below s₁ (mkF m 1 #[vR a1, vR a2, vI p3] [(.ref a1)]) t) => pre0 t (by
    show Go _ _ _ _ (mkF m 0 #[vR a1, vR a2, vI p3] []) _
    refine XS.aloadN X0.here hx rfl (hb hby d18_0) rfl rfl ?_
    exact kt)
  obtain ⟨T22, X22, e22, st22⟩ := initO X0 hx hZ hown (ox hw 146 rfl) (ox hw 39 rfl) (ox hw 40 rfl) e0 (g := (mkF m 1 #[vR a1, vR a2, vI p3] [(.ref a1)])) rfl (by rw [hml]; rfl) rfl (hb hby d18_1) (by decide) (W := 0) own_le0 (by decide)
  have q23 := fun t (kt : Go p e below T22 (mkF m 6 #[vR a1, vR a2, vI p3] [(.ref a2), (.ref a1)]) t) => q21 t (st22 t (by
    show Go _ _ _ _ (mkF m 4 #[vR a1, vR a2, vI p3] []) _
    refine XS.aloadN X22.here hx rfl (hb hby d18_4) rfl rfl ?_
    show Go _ _ _ _ (mkF m 5 _ [(.ref a1)]) _
    refine XS.aloadN X22.here hx rfl (hb hby d18_5) rfl rfl ?_
    exact kt))
  obtain ⟨T24, h24, X24, e24, W24, st24⟩ := putF X22 hx hZ hown (host := "") (Or.inl (ox hw 147 rfl)) Via.refl e22 G1 G0 (Or.inr ⟨(ox hw 148 rfl), rfl, hnm⟩) (ox hw 131 rfl) (ty := (.object sk23)) (by decide) rfl rfl (g := (mkF m 6 #[vR a1, vR a2, vI p3] [(.ref a2), (.ref a1)])) rfl rfl (hb hby d18_6)
  have f25 : Fld Z h24 a1 sk20 "list" sk5 (.ref a2) := G1.same W24
  have N26 := Fr.snoc X24 N0 g_a1
  have O27 := O0.wr W24 g_a1
  have K28 := K0.wr W24 (Or.inl (List.mem_of_getElem? (i := 0) rfl))
  have f29 := (G0.wr W24)
  have f30 := (G2.other W24 (Or.inr (slot_ne (Or.inr (ox hw 150 rfl)) (Or.inr (ox hw 148 rfl)) (by decide) (t := .int) (t' := (.object sk23)) (by decide) (by decide))))
  have q31 := fun t (kt : Go p e below T24 (mkF m 11 #[vR a1, vR a2, vI p3] [(.int p3), (.ref a1)]) t) => q23 t (st24 t (by
    show Go _ _ _ _ (mkF m 9 #[vR a1, vR a2, vI p3] []) _
    refine XS.aloadN X24.here hx rfl (hb hby d18_9) rfl rfl ?_
    show Go _ _ _ _ (mkF m 10 _ [(.ref a1)]) _
    refine XS.iloadN X24.here hx rfl (hb hby d18_10) rfl ?_
    exact kt))
  obtain ⟨T32, h32, X32, e32, W32, st32⟩ := putF X24 hx hZ hown (host := "") (Or.inl (ox hw 149 rfl)) Via.refl e24 f30 f29 (Or.inr ⟨(ox hw 150 rfl), rfl, hnm⟩) (ox hw 131 rfl) (ty := .int) (by decide) rfl rfl (g := (mkF m 11 #[vR a1, vR a2, vI p3] [(.int p3), (.ref a1)])) rfl rfl (hb hby d18_11)
  have f33 : Fld Z h32 a1 sk20 "size" "I" (.int p3) := f30.same W32
  have N34 := Fr.snoc X32 N26 g_a1
  have O35 := O27.wr W32 g_a1
  have K36 := K28.wr W32 (Or.inl (List.mem_of_getElem? (i := 0) rfl))
  have f37 := (f29.wr W32)
  have f38 := ((G3.other W24 (Or.inr (slot_ne (Or.inl (ox hw 152 rfl)) (Or.inr (ox hw 148 rfl)) (by decide) (t := .int) (t' := (.object sk23)) (by decide) (by decide)))).other W32 (Or.inr (slot_ne (Or.inl (ox hw 152 rfl)) (Or.inr (ox hw 150 rfl)) (by decide) (t := .int) (t' := .int) (by decide) (by decide))))
  have q39 := fun t (kt : Go p e below T32 (mkF m 16 #[vR a1, vR a2, vI p3] [(.int 0), (.ref a1)]) t) => q31 t (st32 t (by
    show Go _ _ _ _ (mkF m 14 #[vR a1, vR a2, vI p3] []) _
    refine XS.aloadN X32.here hx rfl (hb hby d18_14) rfl rfl ?_
    show Go _ _ _ _ (mkF m 15 _ [(.ref a1)]) _
    refine XS.iconst X32.here hx rfl (hb hby d18_15) ?_
    exact kt))
  obtain ⟨T40, h40, X40, e40, W40, st40⟩ := putF X32 hx hZ hown (host := "") (Or.inl (ox hw 151 rfl)) Via.refl e32 f38 f37 (Or.inl (ox hw 152 rfl)) (ox hw 131 rfl) (ty := .int) (by decide) rfl rfl (g := (mkF m 16 #[vR a1, vR a2, vI p3] [(.int 0), (.ref a1)])) rfl rfl (hb hby d18_16)
  have f41 : Fld Z h40 a1 sk20 "cursor" "I" (.int 0) := f38.same W40
  have N42 := Fr.snoc X40 N34 g_a1
  have O43 := O35.wr W40 g_a1
  have K44 := K36.wr W40 (Or.inl (List.mem_of_getElem? (i := 0) rfl))
  have f45 := (f37.wr W40)
  have f46 := (((G4.other W24 (Or.inr (slot_ne (Or.inr (ox hw 154 rfl)) (Or.inr (ox hw 148 rfl)) (by decide) (t := .boolean) (t' := (.object sk23)) (by decide) (by decide)))).other W32 (Or.inr (slot_ne (Or.inr (ox hw 154 rfl)) (Or.inr (ox hw 150 rfl)) (by decide) (t := .boolean) (t' := .int) (by decide) (by decide)))).other W40 (Or.inr (slot_ne (Or.inr (ox hw 154 rfl)) (Or.inl (ox hw 152 rfl)) (by decide) (t := .boolean) (t' := .int) (by decide) (by decide))))
  have q47 := fun t (kt : Go p e below T40 (mkF m 21 #[vR a1, vR a2, vI p3] [(.int 0), (.ref a1)]) t) => q39 t (st40 t (by
    show Go _ _ _ _ (mkF m 19 #[vR a1, vR a2, vI p3] []) _
    refine XS.aloadN X40.here hx rfl (hb hby d18_19) rfl rfl ?_
    show Go _ _ _ _ (mkF m 20 _ [(.ref a1)]) _
    refine XS.iconst X40.here hx rfl (hb hby d18_20) ?_
    exact kt))
  obtain ⟨T48, h48, X48, e48, W48, st48⟩ := putFN X40 hx hZ hown (ox hw 153 rfl) Via.refl e40 f46 f45 (Or.inr ⟨(ox hw 154 rfl), rfl, hnm⟩) (ox hw 131 rfl) (ty := .boolean) (v' := (.int 0)) (by decide) rfl rfl (g := (mkF m 21 #[vR a1, vR a2, vI p3] [(.int 0), (.ref a1)])) rfl rfl (hb hby d18_21)
  have f49 : Fld Z h48 a1 sk20 sk13 "Z" (.int 0) := f46.same W48
  have N50 := Fr.snoc X48 N42 g_a1
  have O51 := O43.wr W48 g_a1
  have K52 := K44.wr W48 (Or.inl (List.mem_of_getElem? (i := 0) rfl))
  have q53 := fun t (kt : Go p e below T48 (mkF m 24 #[vR a1, vR a2, vI p3] []) t) => q47 t (st48 t kt)
  have f54 := (((f25.other W32 (Or.inr (slot_ne (Or.inr (ox hw 148 rfl)) (Or.inr (ox hw 150 rfl)) (by decide) (t := (.object sk23)) (t' := .int) (by decide) (by decide)))).other W40 (Or.inr (slot_ne (Or.inr (ox hw 148 rfl)) (Or.inl (ox hw 152 rfl)) (by decide) (t := (.object sk23)) (t' := .int) (by decide) (by decide)))).other W48 (Or.inr (slot_ne (Or.inr (ox hw 148 rfl)) (Or.inr (ox hw 154 rfl)) (by decide) (t := (.object sk23)) (t' := .boolean) (by decide) (by decide))))
  have f55 := ((f33.other W40 (Or.inr (slot_ne (Or.inr (ox hw 150 rfl)) (Or.inl (ox hw 152 rfl)) (by decide) (t := .int) (t' := .int) (by decide) (by decide)))).other W48 (Or.inr (slot_ne (Or.inr (ox hw 150 rfl)) (Or.inr (ox hw 154 rfl)) (by decide) (t := .int) (t' := .boolean) (by decide) (by decide))))
  have f56 := (f41.other W48 (Or.inr (slot_ne (Or.inl (ox hw 152 rfl)) (Or.inr (ox hw 154 rfl)) (by decide) (t := .int) (t' := .boolean) (by decide) (by decide))))
  exact ⟨none, T48, _, _, _, _, X48, by decide, by decide, fun _ => rfl, q53, fun fs hr => X48.returnOut hx hret (hb hby d18_24) hr, by rw [e48]; exact ⟨rfl, N50, K52, f54, f55, f56⟩⟩
theorem ef_17_R (m : MethodId) (x0 : Addr) : entryFrame m #[(.ref x0)] 1 = mkF m 0 #[.val (.ref x0)] [] := by first | (simp [entryFrame, mkF, argsToLocals, Value.category]; done) | rfl
theorem pn_17 : plainName "java/util/ImmutableCollections$ListN" = true := by first | (simp [plainName, overriddenIn]; done) | decide +kernel
theorem d17_0 : decode jdk_45_method_3_code 0 = .ok (.aload_n 0, 1) := by decide +kernel
theorem d17_1 : decode jdk_45_method_3_code 1 = .ok (.getfield 7, 3) := by decide +kernel
theorem d17_4 : decode jdk_45_method_3_code 4 = .ok (.arraylength, 1) := by decide +kernel
theorem d17_5 : decode jdk_45_method_3_code 5 = .ok (.ireturn, 1) := by decide +kernel
def Q_rm17_0 (Z : State) (a1 : Addr) (ra : Addr) (kr : ClassId) (cw : Nat → Nat) (z_cs : Int32) (h0 : Heap) (n0 : Nat) (v : Option Value) (h : Heap) (L : List Loc) : Prop := v = some (.int 0) ∧ Fr n0 L ∧ h = h0
theorem rm17_0 (l : Launch) (Z : State) (a0 : Array Value) (hw : ∀ d ∈ tables_1, d.before a0 Z = true) (ws : List Jvm.Cond) {cw : Nat → Nat} {z_cs : Int32} (cx : Cx Z cw z_cs) (a1 : Addr) (ra : Addr) (kr : ClassId) (h0 : Heap) (n0 : Nat) (O0 : Old Z n0 h0) (G0 : Fld Z h0 a1 sk21 "elements" sk6 (.ref ra)) (G1 : Arv Z h0 ra kr (.object sk14) (0 : Int32) [] .null) :
    OwnMet l ym37 (Jvm.Cond.code ym37 jdk_45_method_3_code 1 (some .int) :: ws) (own_R 0 0 0 0) #[(.ref a1)] Z h0 (Q_rm17_0 Z a1 ra kr cw z_cs h0 n0) := by
  refine own_body (plainFor_of_name pn_17) hisR fun p e s m below meth c s₁ hx hby hml hown hnm hret hZ X0 e0 => ?_
  have N0 := Fr.nil n0
  have pre0 : ∀ t, Go p e below s₁ (mkF m 0 #[vR a1] []) t → Go p e below s₁ (entryFrame m #[(.ref a1)] 1) t := fun t k => castTop (ef_17_R m a1) k
  have q21 := fun t (kt : Go p e below s₁ (mkF m 1 #[vR a1] [(.ref a1)]) t) => pre0 t (by
    show Go _ _ _ _ (mkF m 0 #[vR a1] []) _
    refine XS.aloadN X0.here hx rfl (hb hby d17_0) rfl rfl ?_
    exact kt)
  obtain ⟨T22, X22, e22, st22⟩ := getF X0 hx hZ hown (host := "") (Or.inl (ox hw 140 rfl)) Via.refl e0 G0 (g := (mkF m 1 #[vR a1] [(.ref a1)])) rfl rfl (hb hby d17_1)
  obtain ⟨c23, Ar23, -, S23, N23, -, -⟩ := id G1
  have q24 := fun t (kt : Go p e below T22 (mkF m 5 #[vR a1] [(.int 0)]) t) => q21 t (st22 t (by
    show Go _ _ _ _ (mkF m 4 #[vR a1] [(.ref ra)]) _
    refine X22.arraylength hx (by rw [e22]; exact Ar23.1) (State.isArrayOf_alike hZ.alike Ar23.2.1) (g := (mkF m 4 #[vR a1] [(.ref ra)])) rfl rfl (hb hby d17_4) _ ?_
    rw [len_of S23 N23]
    exact kt))
  exact ⟨some (.int 0), T22, _, _, _, _, X22, by decide, by decide, nofun, q24, fun fs hr => retI X22 hx hret (hb hby d17_5) hr, by rw [e22]; exact ⟨rfl, N0, rfl⟩⟩
def Q_rm17_3 (Z : State) (a1 : Addr) (ra : Addr) (kr : ClassId) (x1 : Addr) (x2 : Addr) (x3 : Addr) (cw : Nat → Nat) (z_cs : Int32) (h0 : Heap) (n0 : Nat) (v : Option Value) (h : Heap) (L : List Loc) : Prop := v = some (.int 3) ∧ Fr n0 L ∧ h = h0
theorem rm17_3 (l : Launch) (Z : State) (a0 : Array Value) (hw : ∀ d ∈ tables_1, d.before a0 Z = true) (ws : List Jvm.Cond) {cw : Nat → Nat} {z_cs : Int32} (cx : Cx Z cw z_cs) (a1 : Addr) (ra : Addr) (kr : ClassId) (x1 : Addr) (x2 : Addr) (x3 : Addr) (h0 : Heap) (n0 : Nat) (O0 : Old Z n0 h0) (G0 : Fld Z h0 a1 sk21 "elements" sk6 (.ref ra)) (G1 : Arv Z h0 ra kr (.object sk14) (3 : Int32) [(.ref x1), (.ref x2), (.ref x3)] .null) :
    OwnMet l ym37 (Jvm.Cond.code ym37 jdk_45_method_3_code 1 (some .int) :: ws) (own_R 0 0 0 0) #[(.ref a1)] Z h0 (Q_rm17_3 Z a1 ra kr x1 x2 x3 cw z_cs h0 n0) := by
  refine own_body (plainFor_of_name pn_17) hisR fun p e s m below meth c s₁ hx hby hml hown hnm hret hZ X0 e0 => ?_
  have N0 := Fr.nil n0
  have pre0 : ∀ t, Go p e below s₁ (mkF m 0 #[vR a1] []) t → Go p e below s₁ (entryFrame m #[(.ref a1)] 1) t := fun t k => castTop (ef_17_R m a1) k
  have q21 := fun t (kt : Go p e below s₁ (mkF m 1 #[vR a1] [(.ref a1)]) t) => pre0 t (by
    show Go _ _ _ _ (mkF m 0 #[vR a1] []) _
    refine XS.aloadN X0.here hx rfl (hb hby d17_0) rfl rfl ?_
    exact kt)
  obtain ⟨T22, X22, e22, st22⟩ := getF X0 hx hZ hown (host := "") (Or.inl (ox hw 140 rfl)) Via.refl e0 G0 (g := (mkF m 1 #[vR a1] [(.ref a1)])) rfl rfl (hb hby d17_1)
  obtain ⟨c23, Ar23, -, S23, N23, -, -⟩ := id G1
  have q24 := fun t (kt : Go p e below T22 (mkF m 5 #[vR a1] [(.int 3)]) t) => q21 t (st22 t (by
    show Go _ _ _ _ (mkF m 4 #[vR a1] [(.ref ra)]) _
    refine X22.arraylength hx (by rw [e22]; exact Ar23.1) (State.isArrayOf_alike hZ.alike Ar23.2.1) (g := (mkF m 4 #[vR a1] [(.ref ra)])) rfl rfl (hb hby d17_4) _ ?_
    rw [len_of S23 N23]
    exact kt))
  exact ⟨some (.int 3), T22, _, _, _, _, X22, by decide, by decide, nofun, q24, fun fs hr => retI X22 hx hret (hb hby d17_5) hr, by rw [e22]; exact ⟨rfl, N0, rfl⟩⟩
theorem ef_51_R (m : MethodId) (x0 : Addr) : entryFrame m #[(.ref x0)] 1 = mkF m 0 #[.val (.ref x0)] [] := by first | (simp [entryFrame, mkF, argsToLocals, Value.category]; done) | rfl
theorem pn_51 : plainName "java/util/ImmutableCollections$List12" = true := by first | (simp [plainName, overriddenIn]; done) | decide +kernel
theorem d51_0 : decode jdk_44_method_3_code 0 = .ok (.aload_n 0, 1) := by decide +kernel
theorem d51_1 : decode jdk_44_method_3_code 1 = .ok (.getfield 24, 3) := by decide +kernel
theorem d51_4 : decode jdk_44_method_3_code 4 = .ok (.getstatic 19, 3) := by decide +kernel
theorem d51_7 : decode jdk_44_method_3_code 7 = .ok (.if_acmp .eq 7, 3) := by decide +kernel
theorem d51_14 : decode jdk_44_method_3_code 14 = .ok (.iconst 1, 1) := by decide +kernel
theorem d51_15 : decode jdk_44_method_3_code 15 = .ok (.ireturn, 1) := by decide +kernel
def Q_rm51_1 (Z : State) (a1 : Addr) (cw : Nat → Nat) (z_cs : Int32) (h0 : Heap) (n0 : Nat) (v : Option Value) (h : Heap) (L : List Loc) : Prop := v = some (.int 1) ∧ Fr n0 L ∧ h = h0
theorem rm51_1 (l : Launch) (Z : State) (a0 : Array Value) (hw : ∀ d ∈ tables_1, d.before a0 Z = true) (ws : List Jvm.Cond) {cw : Nat → Nat} {z_cs : Int32} (cx : Cx Z cw z_cs) (a1 : Addr) (h0 : Heap) (n0 : Nat) (O0 : Old Z n0 h0) (G0 : Fld Z h0 a1 sk19 "e1" sk3 (.ref (cw 19))) :
    OwnMet l ym38 (Jvm.Cond.code ym38 jdk_44_method_3_code 1 (some .int) :: ws) (own_R 0 0 0 0) #[(.ref a1)] Z h0 (Q_rm51_1 Z a1 cw z_cs h0 n0) := by
  refine own_body (plainFor_of_name pn_51) hisR fun p e s m below meth c s₁ hx hby hml hown hnm hret hZ X0 e0 => ?_
  have N0 := Fr.nil n0
  have pre0 : ∀ t, Go p e below s₁ (mkF m 0 #[vR a1] []) t → Go p e below s₁ (entryFrame m #[(.ref a1)] 1) t := fun t k => castTop (ef_51_R m a1) k
  have q21 := fun t (kt : Go p e below s₁ (mkF m 1 #[vR a1] [(.ref a1)]) t) => pre0 t (by
    show Go _ _ _ _ (mkF m 0 #[vR a1] []) _
    refine XS.aloadN X0.here hx rfl (hb hby d51_0) rfl rfl ?_
    exact kt)
  obtain ⟨T22, X22, e22, st22⟩ := getF X0 hx hZ hown (host := "") (Or.inl (ox hw 309 rfl)) Via.refl e0 G0 (g := (mkF m 1 #[vR a1] [(.ref a1)])) rfl rfl (hb hby d51_1)
  obtain ⟨T23, X23, e23, st23⟩ := getS2 X22 hx hZ hown (Or.inr (ox hw 308 rfl)) Via.refl e22 (cx.2.2.2.2.2.2.2.2.2.2.2.2.2.2.2.2.2.2.2.2.2.2.2.2.2.2.2.2.2.2.2.2.2.2.2.2.2.2.2.2.1.ext O0.2) (g := (mkF m 4 #[vR a1] [(.ref (cw 19))])) rfl (hb hby d51_4)
  have q24 := fun t (kt : Go p e below T23 (mkF m 15 #[vR a1] [(.int 1)]) t) => q21 t (st22 t (st23 t (by
    show Go _ _ _ _ (mkF m 7 #[vR a1] [(.ref (cw 19)), (.ref (cw 19))]) _
    refine Jvm.RoadKit.acmp (g := (mkF m 7 #[vR a1] [(.ref (cw 19)), (.ref (cw 19))])) X23 hx rfl rfl rfl (pc0 := 7) (pc' := 14) (same := true) rfl (hb hby d51_7) rfl (decide_eq_true rfl) (by decide) (by decide) ?_
    show Go _ _ _ _ (mkF m 14 _ []) _
    refine XS.iconst X23.here hx rfl (hb hby d51_14) ?_
    exact kt)))
  exact ⟨some (.int 1), T23, _, _, _, _, X23, by decide, by decide, nofun, q24, fun fs hr => retI X23 hx hret (hb hby d51_15) hr, by rw [e23]; exact ⟨rfl, N0, rfl⟩⟩
theorem d51_10 : decode jdk_44_method_3_code 10 = .ok (.iconst 2, 1) := by decide +kernel
theorem d51_11 : decode jdk_44_method_3_code 11 = .ok (.goto 4, 3) := by decide +kernel
def Q_rm51_2 (Z : State) (a1 : Addr) (x2 : Addr) (cw : Nat → Nat) (z_cs : Int32) (h0 : Heap) (n0 : Nat) (v : Option Value) (h : Heap) (L : List Loc) : Prop := v = some (.int 2) ∧ Fr n0 L ∧ h = h0
theorem rm51_2 (l : Launch) (Z : State) (a0 : Array Value) (hw : ∀ d ∈ tables_1, d.before a0 Z = true) (ws : List Jvm.Cond) {cw : Nat → Nat} {z_cs : Int32} (cx : Cx Z cw z_cs) (a1 : Addr) (x2 : Addr) (h0 : Heap) (n0 : Nat) (O0 : Old Z n0 h0) (G0 : Fld Z h0 a1 sk19 "e1" sk3 (.ref x2)) (g_x2 : n0 ≤ x2) :
    OwnMet l ym38 (Jvm.Cond.code ym38 jdk_44_method_3_code 1 (some .int) :: ws) (own_R 0 0 0 0) #[(.ref a1)] Z h0 (Q_rm51_2 Z a1 x2 cw z_cs h0 n0) := by
  refine own_body (plainFor_of_name pn_51) hisR fun p e s m below meth c s₁ hx hby hml hown hnm hret hZ X0 e0 => ?_
  have N0 := Fr.nil n0
  have pre0 : ∀ t, Go p e below s₁ (mkF m 0 #[vR a1] []) t → Go p e below s₁ (entryFrame m #[(.ref a1)] 1) t := fun t k => castTop (ef_51_R m a1) k
  have q21 := fun t (kt : Go p e below s₁ (mkF m 1 #[vR a1] [(.ref a1)]) t) => pre0 t (by
    show Go _ _ _ _ (mkF m 0 #[vR a1] []) _
    refine XS.aloadN X0.here hx rfl (hb hby d51_0) rfl rfl ?_
    exact kt)
  obtain ⟨T22, X22, e22, st22⟩ := getF X0 hx hZ hown (host := "") (Or.inl (ox hw 309 rfl)) Via.refl e0 G0 (g := (mkF m 1 #[vR a1] [(.ref a1)])) rfl rfl (hb hby d51_1)
  obtain ⟨T23, X23, e23, st23⟩ := getS2 X22 hx hZ hown (Or.inr (ox hw 308 rfl)) Via.refl e22 (cx.2.2.2.2.2.2.2.2.2.2.2.2.2.2.2.2.2.2.2.2.2.2.2.2.2.2.2.2.2.2.2.2.2.2.2.2.2.2.2.2.1.ext O0.2) (g := (mkF m 4 #[vR a1] [(.ref x2)])) rfl (hb hby d51_4)
  have ne24 : (cw 19) ≠ x2 := (Old.ne O0 cx.2.2.2.2.2.2.2.2.2.2.2.2.2.2.2.2.2.2.2.2.2.2.2.2.2.2.2.2.2.2.2.2.2.2.2.2.2.2.2.2.2.1.lt g_x2)
  have q25 := fun t (kt : Go p e below T23 (mkF m 15 #[vR a1] [(.int 2)]) t) => q21 t (st22 t (st23 t (by
    show Go _ _ _ _ (mkF m 7 #[vR a1] [(.ref (cw 19)), (.ref x2)]) _
    refine Jvm.RoadKit.acmp (g := (mkF m 7 #[vR a1] [(.ref (cw 19)), (.ref x2)])) X23 hx rfl rfl rfl (pc0 := 7) (pc' := 10) (same := false) rfl (hb hby d51_7) rfl (decide_eq_false (fun q => (Ne.symm ne24) (Value.ref.inj q))) (by decide) (by decide) ?_
    show Go _ _ _ _ (mkF m 10 _ []) _
    refine XS.iconst X23.here hx rfl (hb hby d51_10) ?_
    show Go _ _ _ _ (mkF m 11 _ [(.int 2)]) _
    refine XS.goto X23.here hx rfl (pc0 := 11) (pc' := 15) rfl (hb hby d51_11) (by decide) (by decide) ?_
    exact kt)))
  exact ⟨some (.int 2), T23, _, _, _, _, X23, by decide, by decide, nofun, q25, fun fs hr => retI X23 hx hret (hb hby d51_15) hr, by rw [e23]; exact ⟨rfl, N0, rfl⟩⟩
theorem ef_16_R (m : MethodId) (x0 : Addr) : entryFrame m #[(.ref x0)] 1 = mkF m 0 #[.val (.ref x0)] [] := by first | (simp [entryFrame, mkF, argsToLocals, Value.category]; done) | rfl
theorem pn_16 : plainName "java/util/ImmutableCollections$AbstractImmutableList" = true := by first | (simp [plainName, overriddenIn]; done) | decide +kernel
theorem d16_0 : decode jdk_46_method_10_code 0 = .ok (.new 61, 3) := by decide +kernel
theorem d16_3 : decode jdk_46_method_10_code 3 = .ok (.dup, 1) := by decide +kernel
theorem d16_4 : decode jdk_46_method_10_code 4 = .ok (.aload_n 0, 1) := by decide +kernel
theorem d16_5 : decode jdk_46_method_10_code 5 = .ok (.aload_n 0, 1) := by decide +kernel
theorem d16_6 : decode jdk_46_method_10_code 6 = .ok (.invokevirtual 13, 3) := by decide +kernel
theorem pd_21 : parseMethodDescriptor "()I" = some ⟨[], some .int⟩ := by decide +kernel
theorem d16_9 : decode jdk_46_method_10_code 9 = .ok (.invokespecial 63, 3) := by decide +kernel
theorem pd_22 : parseMethodDescriptor "(Ljava/util/List;I)V" = some ⟨[(.object "java/util/List"), .int], none⟩ := by decide +kernel
theorem d16_12 : decode jdk_46_method_10_code 12 = .ok (.areturn, 1) := by decide +kernel
def Q_rm16_0 (Z : State) (a1 : Addr) (ra : Addr) (kr : ClassId) (cw : Nat → Nat) (z_cs : Int32) (h0 : Heap) (n0 : Nat) (v : Option Value) (h : Heap) (L : List Loc) : Prop := ∃ (it : Addr), v = some (.ref it) ∧ Fr n0 L ∧ Keep h0 h [] ∧ h0.size ≤ it ∧ Exa Z h it sk20 ∧ Fld Z h it sk20 "list" sk5 (.ref a1) ∧ Fld Z h it sk20 "size" "I" (.int 0) ∧ Fld Z h it sk20 "cursor" "I" (.int 0)
theorem rm16_0 (l : Launch) (Z : State) (a0 : Array Value) (hw : ∀ d ∈ tables_1, d.before a0 Z = true) (ws : List Jvm.Cond) {cw : Nat → Nat} {z_cs : Int32} (cx : Cx Z cw z_cs) (a1 : Addr) (ra : Addr) (kr : ClassId) (h0 : Heap) (n0 : Nat) (O0 : Old Z n0 h0) (G0 : Exa Z h0 a1 sk21) (G1 : Fld Z h0 a1 sk21 "elements" sk6 (.ref ra)) (G2 : Arv Z h0 ra kr (.object sk14) (0 : Int32) [] .null) :
    OwnMet l ym39 (Jvm.Cond.code ym39 jdk_46_method_10_code 1 (some (.object sk22)) :: ws) (own_R 2 1 4 27) #[(.ref a1)] Z h0 (Q_rm16_0 Z a1 ra kr cw z_cs h0 n0) := by
  refine own_body (plainFor_of_name pn_16) hisR fun p e s m below meth c s₁ hx hby hml hown hnm hret hZ X0 e0 => ?_
  have N0 := Fr.nil n0
  have K0 : Keep h0 h0 [] := Keep.refl _ _
  have pre0 : ∀ t, Go p e below s₁ (mkF m 0 #[vR a1] []) t → Go p e below s₁ (entryFrame m #[(.ref a1)] 1) t := fun t k => castTop (ef_16_R m a1) k
  obtain ⟨T21, h21, X21, e21, E21, A21, D21, U21, st21⟩ := newO X0 hx hZ hown (ox hw 130 rfl) (ox hw 131 rfl) (ox hw 132 rfl) e0 (g := (mkF m 0 #[vR a1] [])) rfl (hb hby d16_0) (by decide) (by decide)
  obtain ⟨b21, g21⟩ : ∃ z, z = h0.size := ⟨_, rfl⟩
  rw [← g21] at A21 D21 st21
  have gg22 : n0 ≤ b21 := Nat.le_trans (O0.1 ▸ O0.2.1) (Nat.le_of_eq g21.symm)
  have sz23 : h0.size ≤ b21 := Nat.le_trans K0.1 (Nat.le_of_eq g21.symm)
  have O24 := O0.ext E21
  have K25 := K0.ext E21
  have F21_list : Fld Z h21 b21 sk20 "list" sk5 .null := D21 (Or.inr (ox hw 148 rfl)) (ty := (.object sk23)) (by decide)
  have F21_size : Fld Z h21 b21 sk20 "size" "I" (.int 0) := D21 (Or.inr (ox hw 150 rfl)) (ty := .int) (by decide)
  have F21_cursor : Fld Z h21 b21 sk20 "cursor" "I" (.int 0) := D21 (Or.inl (ox hw 152 rfl)) (ty := .int) (by decide)
  have F21_isListIterator : Fld Z h21 b21 sk20 sk13 "Z" (.int 0) := D21 (Or.inr (ox hw 154 rfl)) (ty := .boolean) (by decide)
  have f26 := (G1.ext E21)
  have f27 := (G2.ext E21)
  have q28 := fun t (kt : Go p e below T21 (mkF m 6 #[vR a1] [(.ref a1), (.ref a1), (.ref b21), (.ref b21)]) t) => pre0 t (st21 t (by
    show Go _ _ _ _ (mkF m 3 #[vR a1] [(.ref b21)]) _
    refine XS.dup X21.here hx rfl (hb hby d16_3) rfl rfl ?_
    show Go _ _ _ _ (mkF m 4 _ [(.ref b21), (.ref b21)]) _
    refine XS.aloadN X21.here hx rfl (hb hby d16_4) rfl rfl ?_
    show Go _ _ _ _ (mkF m 5 _ [(.ref a1), (.ref b21), (.ref b21)]) _
    refine XS.aloadN X21.here hx rfl (hb hby d16_5) rfl rfl ?_
    exact kt))
  have f31 := (G0.ext E21)
  obtain ⟨cq30, kq30, q30a, q30b, q30c⟩ := isOf hZ e21 f31
  obtain ⟨_, _, ⟨T29, L29, k29, n29⟩, -, X29, ⟨_, hQ29, l29, y29, z29⟩, st29⟩ := X21.virtualBackUp hx (x := ym40) (y := ym37) (owner := sk16) hown (ow hZ hw 133 rfl) (ow hZ hw 134 rfl) (ow hZ hw 135 rfl) (by decide) (ow hZ hw 136 rfl) (ow hZ hw 137 rfl) (backOf (W := 3) (rm17_0 l Z a0 hw [] cx a1 ra kr h21 n0 O24 f26 f27) hZ (ox hw 139 rfl) (ox hw 138 rfl) (by decide) (by decide)) q30a q30c (g := (mkF m 6 #[vR a1] [(.ref a1), (.ref a1), (.ref b21), (.ref b21)])) rfl (by rw [hml]; rfl) (Steps.refl _) (argsL := []) (rest := [(.ref a1), (.ref b21), (.ref b21)]) (lenOf pd_21 rfl) rfl own_le0 (hb hby d16_6) (fun _ _ => ⟨rfl, e21, (by decide : 1 + 0 ≤ _), (by decide : 4 + 0 ≤ _)⟩)
  dsimp only [Pt.U, Pt.locs, Pt.cells, Pt.slots] at X29 l29 y29 z29 st29 hQ29
  subst l29 y29 z29
  obtain ⟨rfl, Nq29, eq29⟩ := hQ29
  have N32 := Fr.app N0 Nq29
  obtain ⟨_, _, ⟨T33, L33, k33, n33⟩, -, X33, ⟨_, hQ33, l33, y33, z33⟩, st33⟩ := X29.specialBack hx (y := ym36) rfl hown (ow hZ hw 142 rfl) (ow hZ hw 143 rfl) (ow hZ hw 145 rfl) (by decide) (backOf (W := 1) (rm18 l Z a0 hw [] cx b21 a1 (0 : Int32) h21 n0 O24 A21 F21_list F21_size F21_cursor F21_isListIterator gg22) hZ (ox hw 145 rfl) (ox hw 132 rfl) (by decide) (by decide)) (g := (mkF m 9 #[vR a1] [(.int 0), (.ref a1), (.ref b21), (.ref b21)])) rfl (by rw [hml]; rfl) (Steps.refl _) (a := b21) (argsL := [(.ref a1), (.int 0)]) (rest := [(.ref b21)]) (lenOf pd_22 rfl) rfl own_le0 (hb hby d16_9) (fun _ _ => ⟨rfl, eq29, (by decide : 1 + 0 ≤ _), (by decide : 4 + 0 ≤ _)⟩)
  dsimp only [Pt.U, Pt.locs, Pt.cells, Pt.slots] at X33 l33 y33 z33 st33 hQ33
  subst l33 y33 z33
  obtain ⟨rfl, Nq33, Kq33, fq33_0, fq33_1, fq33_2⟩ := hQ33
  have N34 := Fr.app N32 Nq33
  have O35 := O24.keep Kq33 (allS gg22 all0)
  have K36 := K25.trans Kq33 (allS (Or.inr sz23) all0)
  have q37 := fun t (kt : Go p e below T33 (mkF m 12 #[vR a1] [(.ref b21)]) t) => q28 t (st29.trans (st33.trans kt))
  have f38 := (A21.keep Kq33)
  exact ⟨some (.ref b21), T33, _, _, _, _, X33, by decide, by decide, nofun, q37, fun fs hr => retOut X33 hx hret rfl (o4 ⟨rfl, rfl, rfl⟩) (hb hby d16_12) hr, ⟨b21, rfl, N34, K36, sz23, f38, fq33_0, fq33_1, fq33_2⟩⟩
def Q_rm16_1 (Z : State) (a1 : Addr) (x1 : Addr) (cw : Nat → Nat) (z_cs : Int32) (h0 : Heap) (n0 : Nat) (v : Option Value) (h : Heap) (L : List Loc) : Prop := ∃ (it : Addr), v = some (.ref it) ∧ Fr n0 L ∧ Keep h0 h [] ∧ h0.size ≤ it ∧ Exa Z h it sk20 ∧ Fld Z h it sk20 "list" sk5 (.ref a1) ∧ Fld Z h it sk20 "size" "I" (.int 1) ∧ Fld Z h it sk20 "cursor" "I" (.int 0)
theorem rm16_1 (l : Launch) (Z : State) (a0 : Array Value) (hw : ∀ d ∈ tables_1, d.before a0 Z = true) (ws : List Jvm.Cond) {cw : Nat → Nat} {z_cs : Int32} (cx : Cx Z cw z_cs) (a1 : Addr) (x1 : Addr) (h0 : Heap) (n0 : Nat) (O0 : Old Z n0 h0) (G0 : Exa Z h0 a1 sk19) (G1 : Fld Z h0 a1 sk19 "e0" sk3 (.ref x1)) (G2 : Fld Z h0 a1 sk19 "e1" sk3 (.ref (cw 19))) :
    OwnMet l ym39 (Jvm.Cond.code ym39 jdk_46_method_10_code 1 (some (.object sk22)) :: ws) (own_R 2 1 4 27) #[(.ref a1)] Z h0 (Q_rm16_1 Z a1 x1 cw z_cs h0 n0) := by
  refine own_body (plainFor_of_name pn_16) hisR fun p e s m below meth c s₁ hx hby hml hown hnm hret hZ X0 e0 => ?_
  have N0 := Fr.nil n0
  have K0 : Keep h0 h0 [] := Keep.refl _ _
  have pre0 : ∀ t, Go p e below s₁ (mkF m 0 #[vR a1] []) t → Go p e below s₁ (entryFrame m #[(.ref a1)] 1) t := fun t k => castTop (ef_16_R m a1) k
  obtain ⟨T21, h21, X21, e21, E21, A21, D21, U21, st21⟩ := newO X0 hx hZ hown (ox hw 130 rfl) (ox hw 131 rfl) (ox hw 132 rfl) e0 (g := (mkF m 0 #[vR a1] [])) rfl (hb hby d16_0) (by decide) (by decide)
  obtain ⟨b21, g21⟩ : ∃ z, z = h0.size := ⟨_, rfl⟩
  rw [← g21] at A21 D21 st21
  have gg22 : n0 ≤ b21 := Nat.le_trans (O0.1 ▸ O0.2.1) (Nat.le_of_eq g21.symm)
  have sz23 : h0.size ≤ b21 := Nat.le_trans K0.1 (Nat.le_of_eq g21.symm)
  have O24 := O0.ext E21
  have K25 := K0.ext E21
  have F21_list : Fld Z h21 b21 sk20 "list" sk5 .null := D21 (Or.inr (ox hw 148 rfl)) (ty := (.object sk23)) (by decide)
  have F21_size : Fld Z h21 b21 sk20 "size" "I" (.int 0) := D21 (Or.inr (ox hw 150 rfl)) (ty := .int) (by decide)
  have F21_cursor : Fld Z h21 b21 sk20 "cursor" "I" (.int 0) := D21 (Or.inl (ox hw 152 rfl)) (ty := .int) (by decide)
  have F21_isListIterator : Fld Z h21 b21 sk20 sk13 "Z" (.int 0) := D21 (Or.inr (ox hw 154 rfl)) (ty := .boolean) (by decide)
  have f26 := (G2.ext E21)
  have q27 := fun t (kt : Go p e below T21 (mkF m 6 #[vR a1] [(.ref a1), (.ref a1), (.ref b21), (.ref b21)]) t) => pre0 t (st21 t (by
    show Go _ _ _ _ (mkF m 3 #[vR a1] [(.ref b21)]) _
    refine XS.dup X21.here hx rfl (hb hby d16_3) rfl rfl ?_
    show Go _ _ _ _ (mkF m 4 _ [(.ref b21), (.ref b21)]) _
    refine XS.aloadN X21.here hx rfl (hb hby d16_4) rfl rfl ?_
    show Go _ _ _ _ (mkF m 5 _ [(.ref a1), (.ref b21), (.ref b21)]) _
    refine XS.aloadN X21.here hx rfl (hb hby d16_5) rfl rfl ?_
    exact kt))
  have f30 := (G0.ext E21)
  obtain ⟨cq29, kq29, q29a, q29b, q29c⟩ := isOf hZ e21 f30
  obtain ⟨_, _, ⟨T28, L28, k28, n28⟩, -, X28, ⟨_, hQ28, l28, y28, z28⟩, st28⟩ := X21.virtualBackUp hx (x := ym40) (y := ym38) (owner := sk16) hown (ow hZ hw 133 rfl) (ow hZ hw 134 rfl) (ow hZ hw 135 rfl) (by decide) (ow hZ hw 374 rfl) (ow hZ hw 375 rfl) (backOf (W := 3) (rm51_1 l Z a0 hw [] cx a1 h21 n0 O24 f26) hZ (ox hw 376 rfl) (ox hw 296 rfl) (by decide) (by decide)) q29a q29c (g := (mkF m 6 #[vR a1] [(.ref a1), (.ref a1), (.ref b21), (.ref b21)])) rfl (by rw [hml]; rfl) (Steps.refl _) (argsL := []) (rest := [(.ref a1), (.ref b21), (.ref b21)]) (lenOf pd_21 rfl) rfl own_le0 (hb hby d16_6) (fun _ _ => ⟨rfl, e21, (by decide : 1 + 0 ≤ _), (by decide : 4 + 0 ≤ _)⟩)
  dsimp only [Pt.U, Pt.locs, Pt.cells, Pt.slots] at X28 l28 y28 z28 st28 hQ28
  subst l28 y28 z28
  obtain ⟨rfl, Nq28, eq28⟩ := hQ28
  have N31 := Fr.app N0 Nq28
  obtain ⟨_, _, ⟨T32, L32, k32, n32⟩, -, X32, ⟨_, hQ32, l32, y32, z32⟩, st32⟩ := X28.specialBack hx (y := ym36) rfl hown (ow hZ hw 142 rfl) (ow hZ hw 143 rfl) (ow hZ hw 145 rfl) (by decide) (backOf (W := 1) (rm18 l Z a0 hw [] cx b21 a1 (1 : Int32) h21 n0 O24 A21 F21_list F21_size F21_cursor F21_isListIterator gg22) hZ (ox hw 145 rfl) (ox hw 132 rfl) (by decide) (by decide)) (g := (mkF m 9 #[vR a1] [(.int 1), (.ref a1), (.ref b21), (.ref b21)])) rfl (by rw [hml]; rfl) (Steps.refl _) (a := b21) (argsL := [(.ref a1), (.int 1)]) (rest := [(.ref b21)]) (lenOf pd_22 rfl) rfl own_le0 (hb hby d16_9) (fun _ _ => ⟨rfl, eq28, (by decide : 1 + 0 ≤ _), (by decide : 4 + 0 ≤ _)⟩)
  dsimp only [Pt.U, Pt.locs, Pt.cells, Pt.slots] at X32 l32 y32 z32 st32 hQ32
  subst l32 y32 z32
  obtain ⟨rfl, Nq32, Kq32, fq32_0, fq32_1, fq32_2⟩ := hQ32
  have N33 := Fr.app N31 Nq32
  have O34 := O24.keep Kq32 (allS gg22 all0)
  have K35 := K25.trans Kq32 (allS (Or.inr sz23) all0)
  have q36 := fun t (kt : Go p e below T32 (mkF m 12 #[vR a1] [(.ref b21)]) t) => q27 t (st28.trans (st32.trans kt))
  have f37 := (A21.keep Kq32)
  exact ⟨some (.ref b21), T32, _, _, _, _, X32, by decide, by decide, nofun, q36, fun fs hr => retOut X32 hx hret rfl (o4 ⟨rfl, rfl, rfl⟩) (hb hby d16_12) hr, ⟨b21, rfl, N33, K35, sz23, f37, fq32_0, fq32_1, fq32_2⟩⟩
def Q_rm16_2 (Z : State) (a1 : Addr) (x1 : Addr) (x2 : Addr) (cw : Nat → Nat) (z_cs : Int32) (h0 : Heap) (n0 : Nat) (v : Option Value) (h : Heap) (L : List Loc) : Prop := ∃ (it : Addr), v = some (.ref it) ∧ Fr n0 L ∧ Keep h0 h [] ∧ h0.size ≤ it ∧ Exa Z h it sk20 ∧ Fld Z h it sk20 "list" sk5 (.ref a1) ∧ Fld Z h it sk20 "size" "I" (.int 2) ∧ Fld Z h it sk20 "cursor" "I" (.int 0)
theorem rm16_2 (l : Launch) (Z : State) (a0 : Array Value) (hw : ∀ d ∈ tables_1, d.before a0 Z = true) (ws : List Jvm.Cond) {cw : Nat → Nat} {z_cs : Int32} (cx : Cx Z cw z_cs) (a1 : Addr) (x1 : Addr) (x2 : Addr) (h0 : Heap) (n0 : Nat) (O0 : Old Z n0 h0) (G0 : Exa Z h0 a1 sk19) (G1 : Fld Z h0 a1 sk19 "e0" sk3 (.ref x1)) (G2 : Fld Z h0 a1 sk19 "e1" sk3 (.ref x2)) (g_x2 : n0 ≤ x2) :
    OwnMet l ym39 (Jvm.Cond.code ym39 jdk_46_method_10_code 1 (some (.object sk22)) :: ws) (own_R 2 1 4 27) #[(.ref a1)] Z h0 (Q_rm16_2 Z a1 x1 x2 cw z_cs h0 n0) := by
  refine own_body (plainFor_of_name pn_16) hisR fun p e s m below meth c s₁ hx hby hml hown hnm hret hZ X0 e0 => ?_
  have N0 := Fr.nil n0
  have K0 : Keep h0 h0 [] := Keep.refl _ _
  have pre0 : ∀ t, Go p e below s₁ (mkF m 0 #[vR a1] []) t → Go p e below s₁ (entryFrame m #[(.ref a1)] 1) t := fun t k => castTop (ef_16_R m a1) k
  obtain ⟨T21, h21, X21, e21, E21, A21, D21, U21, st21⟩ := newO X0 hx hZ hown (ox hw 130 rfl) (ox hw 131 rfl) (ox hw 132 rfl) e0 (g := (mkF m 0 #[vR a1] [])) rfl (hb hby d16_0) (by decide) (by decide)
  obtain ⟨b21, g21⟩ : ∃ z, z = h0.size := ⟨_, rfl⟩
  rw [← g21] at A21 D21 st21
  have gg22 : n0 ≤ b21 := Nat.le_trans (O0.1 ▸ O0.2.1) (Nat.le_of_eq g21.symm)
  have sz23 : h0.size ≤ b21 := Nat.le_trans K0.1 (Nat.le_of_eq g21.symm)
  have O24 := O0.ext E21
  have K25 := K0.ext E21
  have F21_list : Fld Z h21 b21 sk20 "list" sk5 .null := D21 (Or.inr (ox hw 148 rfl)) (ty := (.object sk23)) (by decide)
  have F21_size : Fld Z h21 b21 sk20 "size" "I" (.int 0) := D21 (Or.inr (ox hw 150 rfl)) (ty := .int) (by decide)
  have F21_cursor : Fld Z h21 b21 sk20 "cursor" "I" (.int 0) := D21 (Or.inl (ox hw 152 rfl)) (ty := .int) (by decide)
  have F21_isListIterator : Fld Z h21 b21 sk20 sk13 "Z" (.int 0) := D21 (Or.inr (ox hw 154 rfl)) (ty := .boolean) (by decide)
  have f26 := (G2.ext E21)
  have q27 := fun t (kt : Go p e below T21 (mkF m 6 #[vR a1] [(.ref a1), (.ref a1), (.ref b21), (.ref b21)]) t) => pre0 t (st21 t (by
    show Go _ _ _ _ (mkF m 3 #[vR a1] [(.ref b21)]) _
    refine XS.dup X21.here hx rfl (hb hby d16_3) rfl rfl ?_
    show Go _ _ _ _ (mkF m 4 _ [(.ref b21), (.ref b21)]) _
    refine XS.aloadN X21.here hx rfl (hb hby d16_4) rfl rfl ?_
    show Go _ _ _ _ (mkF m 5 _ [(.ref a1), (.ref b21), (.ref b21)]) _
    refine XS.aloadN X21.here hx rfl (hb hby d16_5) rfl rfl ?_
    exact kt))
  have f30 := (G0.ext E21)
  obtain ⟨cq29, kq29, q29a, q29b, q29c⟩ := isOf hZ e21 f30
  obtain ⟨_, _, ⟨T28, L28, k28, n28⟩, -, X28, ⟨_, hQ28, l28, y28, z28⟩, st28⟩ := X21.virtualBackUp hx (x := ym40) (y := ym38) (owner := sk16) hown (ow hZ hw 133 rfl) (ow hZ hw 134 rfl) (ow hZ hw 135 rfl) (by decide) (ow hZ hw 374 rfl) (ow hZ hw 375 rfl) (backOf (W := 3) (rm51_2 l Z a0 hw [] cx a1 x2 h21 n0 O24 f26 g_x2) hZ (ox hw 376 rfl) (ox hw 296 rfl) (by decide) (by decide)) q29a q29c (g := (mkF m 6 #[vR a1] [(.ref a1), (.ref a1), (.ref b21), (.ref b21)])) rfl (by rw [hml]; rfl) (Steps.refl _) (argsL := []) (rest := [(.ref a1), (.ref b21), (.ref b21)]) (lenOf pd_21 rfl) rfl own_le0 (hb hby d16_6) (fun _ _ => ⟨rfl, e21, (by decide : 1 + 0 ≤ _), (by decide : 4 + 0 ≤ _)⟩)
  dsimp only [Pt.U, Pt.locs, Pt.cells, Pt.slots] at X28 l28 y28 z28 st28 hQ28
  subst l28 y28 z28
  obtain ⟨rfl, Nq28, eq28⟩ := hQ28
  have N31 := Fr.app N0 Nq28
  obtain ⟨_, _, ⟨T32, L32, k32, n32⟩, -, X32, ⟨_, hQ32, l32, y32, z32⟩, st32⟩ := X28.specialBack hx (y := ym36) rfl hown (ow hZ hw 142 rfl) (ow hZ hw 143 rfl) (ow hZ hw 145 rfl) (by decide) (backOf (W := 1) (rm18 l Z a0 hw [] cx b21 a1 (2 : Int32) h21 n0 O24 A21 F21_list F21_size F21_cursor F21_isListIterator gg22) hZ (ox hw 145 rfl) (ox hw 132 rfl) (by decide) (by decide)) (g := (mkF m 9 #[vR a1] [(.int 2), (.ref a1), (.ref b21), (.ref b21)])) rfl (by rw [hml]; rfl) (Steps.refl _) (a := b21) (argsL := [(.ref a1), (.int 2)]) (rest := [(.ref b21)]) (lenOf pd_22 rfl) rfl own_le0 (hb hby d16_9) (fun _ _ => ⟨rfl, eq28, (by decide : 1 + 0 ≤ _), (by decide : 4 + 0 ≤ _)⟩)
  dsimp only [Pt.U, Pt.locs, Pt.cells, Pt.slots] at X32 l32 y32 z32 st32 hQ32
  subst l32 y32 z32
  obtain ⟨rfl, Nq32, Kq32, fq32_0, fq32_1, fq32_2⟩ := hQ32
  have N33 := Fr.app N31 Nq32
  have O34 := O24.keep Kq32 (allS gg22 all0)
  have K35 := K25.trans Kq32 (allS (Or.inr sz23) all0)
  have q36 := fun t (kt : Go p e below T32 (mkF m 12 #[vR a1] [(.ref b21)]) t) => q27 t (st28.trans (st32.trans kt))
  have f37 := (A21.keep Kq32)
  exact ⟨some (.ref b21), T32, _, _, _, _, X32, by decide, by decide, nofun, q36, fun fs hr => retOut X32 hx hret rfl (o4 ⟨rfl, rfl, rfl⟩) (hb hby d16_12) hr, ⟨b21, rfl, N33, K35, sz23, f37, fq32_0, fq32_1, fq32_2⟩⟩
def Q_rm16_3 (Z : State) (a1 : Addr) (x1 : Addr) (x2 : Addr) (x3 : Addr) (ra : Addr) (kr : ClassId) (cw : Nat → Nat) (z_cs : Int32) (h0 : Heap) (n0 : Nat) (v : Option Value) (h : Heap) (L : List Loc) : Prop := ∃ (it : Addr), v = some (.ref it) ∧ Fr n0 L ∧ Keep h0 h [] ∧ h0.size ≤ it ∧ Exa Z h it sk20 ∧ Fld Z h it sk20 "list" sk5 (.ref a1) ∧ Fld Z h it sk20 "size" "I" (.int 3) ∧ Fld Z h it sk20 "cursor" "I" (.int 0)
theorem rm16_3 (l : Launch) (Z : State) (a0 : Array Value) (hw : ∀ d ∈ tables_1, d.before a0 Z = true) (ws : List Jvm.Cond) {cw : Nat → Nat} {z_cs : Int32} (cx : Cx Z cw z_cs) (a1 : Addr) (x1 : Addr) (x2 : Addr) (x3 : Addr) (ra : Addr) (kr : ClassId) (h0 : Heap) (n0 : Nat) (O0 : Old Z n0 h0) (G0 : Exa Z h0 a1 sk21) (G1 : Fld Z h0 a1 sk21 "elements" sk6 (.ref ra)) (G2 : Arv Z h0 ra kr (.object sk14) (3 : Int32) [(.ref x1), (.ref x2), (.ref x3)] .null) :
    OwnMet l ym39 (Jvm.Cond.code ym39 jdk_46_method_10_code 1 (some (.object sk22)) :: ws) (own_R 2 1 4 27) #[(.ref a1)] Z h0 (Q_rm16_3 Z a1 x1 x2 x3 ra kr cw z_cs h0 n0) := by
  refine own_body (plainFor_of_name pn_16) hisR fun p e s m below meth c s₁ hx hby hml hown hnm hret hZ X0 e0 => ?_
  have N0 := Fr.nil n0
  have K0 : Keep h0 h0 [] := Keep.refl _ _
  have pre0 : ∀ t, Go p e below s₁ (mkF m 0 #[vR a1] []) t → Go p e below s₁ (entryFrame m #[(.ref a1)] 1) t := fun t k => castTop (ef_16_R m a1) k
  obtain ⟨T21, h21, X21, e21, E21, A21, D21, U21, st21⟩ := newO X0 hx hZ hown (ox hw 130 rfl) (ox hw 131 rfl) (ox hw 132 rfl) e0 (g := (mkF m 0 #[vR a1] [])) rfl (hb hby d16_0) (by decide) (by decide)
  obtain ⟨b21, g21⟩ : ∃ z, z = h0.size := ⟨_, rfl⟩
  rw [← g21] at A21 D21 st21
  have gg22 : n0 ≤ b21 := Nat.le_trans (O0.1 ▸ O0.2.1) (Nat.le_of_eq g21.symm)
  have sz23 : h0.size ≤ b21 := Nat.le_trans K0.1 (Nat.le_of_eq g21.symm)
  have O24 := O0.ext E21
  have K25 := K0.ext E21
  have F21_list : Fld Z h21 b21 sk20 "list" sk5 .null := D21 (Or.inr (ox hw 148 rfl)) (ty := (.object sk23)) (by decide)
  have F21_size : Fld Z h21 b21 sk20 "size" "I" (.int 0) := D21 (Or.inr (ox hw 150 rfl)) (ty := .int) (by decide)
  have F21_cursor : Fld Z h21 b21 sk20 "cursor" "I" (.int 0) := D21 (Or.inl (ox hw 152 rfl)) (ty := .int) (by decide)
  have F21_isListIterator : Fld Z h21 b21 sk20 sk13 "Z" (.int 0) := D21 (Or.inr (ox hw 154 rfl)) (ty := .boolean) (by decide)
  have f26 := (G1.ext E21)
  have f27 := (G2.ext E21)
  have q28 := fun t (kt : Go p e below T21 (mkF m 6 #[vR a1] [(.ref a1), (.ref a1), (.ref b21), (.ref b21)]) t) => pre0 t (st21 t (by
    show Go _ _ _ _ (mkF m 3 #[vR a1] [(.ref b21)]) _
    refine XS.dup X21.here hx rfl (hb hby d16_3) rfl rfl ?_
    show Go _ _ _ _ (mkF m 4 _ [(.ref b21), (.ref b21)]) _
    refine XS.aloadN X21.here hx rfl (hb hby d16_4) rfl rfl ?_
    show Go _ _ _ _ (mkF m 5 _ [(.ref a1), (.ref b21), (.ref b21)]) _
    refine XS.aloadN X21.here hx rfl (hb hby d16_5) rfl rfl ?_
    exact kt))
  have f31 := (G0.ext E21)
  obtain ⟨cq30, kq30, q30a, q30b, q30c⟩ := isOf hZ e21 f31
  obtain ⟨_, _, ⟨T29, L29, k29, n29⟩, -, X29, ⟨_, hQ29, l29, y29, z29⟩, st29⟩ := X21.virtualBackUp hx (x := ym40) (y := ym37) (owner := sk16) hown (ow hZ hw 133 rfl) (ow hZ hw 134 rfl) (ow hZ hw 135 rfl) (by decide) (ow hZ hw 136 rfl) (ow hZ hw 137 rfl) (backOf (W := 3) (rm17_3 l Z a0 hw [] cx a1 ra kr x1 x2 x3 h21 n0 O24 f26 f27) hZ (ox hw 139 rfl) (ox hw 138 rfl) (by decide) (by decide)) q30a q30c (g := (mkF m 6 #[vR a1] [(.ref a1), (.ref a1), (.ref b21), (.ref b21)])) rfl (by rw [hml]; rfl) (Steps.refl _) (argsL := []) (rest := [(.ref a1), (.ref b21), (.ref b21)]) (lenOf pd_21 rfl) rfl own_le0 (hb hby d16_6) (fun _ _ => ⟨rfl, e21, (by decide : 1 + 0 ≤ _), (by decide : 4 + 0 ≤ _)⟩)
  dsimp only [Pt.U, Pt.locs, Pt.cells, Pt.slots] at X29 l29 y29 z29 st29 hQ29
  subst l29 y29 z29
  obtain ⟨rfl, Nq29, eq29⟩ := hQ29
  have N32 := Fr.app N0 Nq29
  obtain ⟨_, _, ⟨T33, L33, k33, n33⟩, -, X33, ⟨_, hQ33, l33, y33, z33⟩, st33⟩ := X29.specialBack hx (y := ym36) rfl hown (ow hZ hw 142 rfl) (ow hZ hw 143 rfl) (ow hZ hw 145 rfl) (by decide) (backOf (W := 1) (rm18 l Z a0 hw [] cx b21 a1 (3 : Int32) h21 n0 O24 A21 F21_list F21_size F21_cursor F21_isListIterator gg22) hZ (ox hw 145 rfl) (ox hw 132 rfl) (by decide) (by decide)) (g := (mkF m 9 #[vR a1] [(.int 3), (.ref a1), (.ref b21), (.ref b21)])) rfl (by rw [hml]; rfl) (Steps.refl _) (a := b21) (argsL := [(.ref a1), (.int 3)]) (rest := [(.ref b21)]) (lenOf pd_22 rfl) rfl own_le0 (hb hby d16_9) (fun _ _ => ⟨rfl, eq29, (by decide : 1 + 0 ≤ _), (by decide : 4 + 0 ≤ _)⟩)
  dsimp only [Pt.U, Pt.locs, Pt.cells, Pt.slots] at X33 l33 y33 z33 st33 hQ33
  subst l33 y33 z33
  obtain ⟨rfl, Nq33, Kq33, fq33_0, fq33_1, fq33_2⟩ := hQ33
  have N34 := Fr.app N32 Nq33
  have O35 := O24.keep Kq33 (allS gg22 all0)
  have K36 := K25.trans Kq33 (allS (Or.inr sz23) all0)
  have q37 := fun t (kt : Go p e below T33 (mkF m 12 #[vR a1] [(.ref b21)]) t) => q28 t (st29.trans (st33.trans kt))
  have f38 := (A21.keep Kq33)
  exact ⟨some (.ref b21), T33, _, _, _, _, X33, by decide, by decide, nofun, q37, fun fs hr => retOut X33 hx hret rfl (o4 ⟨rfl, rfl, rfl⟩) (hb hby d16_12) hr, ⟨b21, rfl, N34, K36, sz23, f38, fq33_0, fq33_1, fq33_2⟩⟩
theorem ef_19_R (m : MethodId) (x0 : Addr) : entryFrame m #[(.ref x0)] 1 = mkF m 0 #[.val (.ref x0)] [] := by first | (simp [entryFrame, mkF, argsToLocals, Value.category]; done) | rfl
theorem pn_19 : plainName "java/util/ImmutableCollections$ListItr" = true := by first | (simp [plainName, overriddenIn]; done) | decide +kernel
theorem d19_0 : decode jdk_53_method_3_code 0 = .ok (.aload_n 0, 1) := by decide +kernel
theorem d19_1 : decode jdk_53_method_3_code 1 = .ok (.getfield 17, 3) := by decide +kernel
theorem d19_4 : decode jdk_53_method_3_code 4 = .ok (.aload_n 0, 1) := by decide +kernel
theorem d19_5 : decode jdk_53_method_3_code 5 = .ok (.getfield 13, 3) := by decide +kernel
theorem d19_8 : decode jdk_53_method_3_code 8 = .ok (.if_icmp .eq 7, 3) := by decide +kernel
theorem d19_11 : decode jdk_53_method_3_code 11 = .ok (.iconst 1, 1) := by decide +kernel
theorem d19_12 : decode jdk_53_method_3_code 12 = .ok (.goto 4, 3) := by decide +kernel
theorem d19_16 : decode jdk_53_method_3_code 16 = .ok (.ireturn, 1) := by decide +kernel
def Q_rm19Y (Z : State) (a1 : Addr) (zc : Int32) (zs : Int32) (cw : Nat → Nat) (z_cs : Int32) (h0 : Heap) (n0 : Nat) (v : Option Value) (h : Heap) (L : List Loc) : Prop := v = some (.int 1) ∧ Fr n0 L ∧ h = h0
theorem rm19Y (l : Launch) (Z : State) (a0 : Array Value) (hw : ∀ d ∈ tables_1, d.before a0 Z = true) (ws : List Jvm.Cond) {cw : Nat → Nat} {z_cs : Int32} (cx : Cx Z cw z_cs) (a1 : Addr) (zc : Int32) (zs : Int32) (h0 : Heap) (n0 : Nat) (O0 : Old Z n0 h0) (G0 : Fld Z h0 a1 sk20 "cursor" "I" (.int zc)) (G1 : Fld Z h0 a1 sk20 "size" "I" (.int zs)) (hz : ¬ (zc = zs)) :
    OwnMet l ym41 (Jvm.Cond.code ym41 jdk_53_method_3_code 1 (some .boolean) :: ws) (own_R 0 0 0 0) #[(.ref a1)] Z h0 (Q_rm19Y Z a1 zc zs cw z_cs h0 n0) := by
  refine own_body (plainFor_of_name pn_19) hisR fun p e s m below meth c s₁ hx hby hml hown hnm hret hZ X0 e0 => ?_
  have N0 := Fr.nil n0
  have pre0 : ∀ t, Go p e below s₁ (mkF m 0 #[vR a1] []) t → Go p e below s₁ (entryFrame m #[(.ref a1)] 1) t := fun t k => castTop (ef_19_R m a1) k
  have q21 := fun t (kt : Go p e below s₁ (mkF m 1 #[vR a1] [(.ref a1)]) t) => pre0 t (by
    show Go _ _ _ _ (mkF m 0 #[vR a1] []) _
    refine XS.aloadN X0.here hx rfl (hb hby d19_0) rfl rfl ?_
    exact kt)
  obtain ⟨T22, X22, e22, st22⟩ := getF X0 hx hZ hown (host := "") (Or.inl (ox hw 151 rfl)) Via.refl e0 G0 (g := (mkF m 1 #[vR a1] [(.ref a1)])) rfl rfl (hb hby d19_1)
  have q23 := fun t (kt : Go p e below T22 (mkF m 5 #[vR a1] [(.ref a1), (.int zc)]) t) => q21 t (st22 t (by
    show Go _ _ _ _ (mkF m 4 #[vR a1] [(.int zc)]) _
    refine XS.aloadN X22.here hx rfl (hb hby d19_4) rfl rfl ?_
    exact kt))
  obtain ⟨T24, X24, e24, st24⟩ := getF X22 hx hZ hown (host := "") (Or.inl (ox hw 149 rfl)) Via.refl e22 G1 (g := (mkF m 5 #[vR a1] [(.ref a1), (.int zc)])) rfl rfl (hb hby d19_5)
  have q25 := fun t (kt : Go p e below T24 (mkF m 16 #[vR a1] [(.int 1)]) t) => q23 t (st24 t (by
    show Go _ _ _ _ (mkF m 8 #[vR a1] [(.int zs), (.int zc)]) _
    refine XS.icmpNo X24.here hx rfl (hb hby d19_8) rfl (feq hz).1 ?_
    show Go _ _ _ _ (mkF m 11 _ []) _
    refine XS.iconst X24.here hx rfl (hb hby d19_11) ?_
    show Go _ _ _ _ (mkF m 12 _ [(.int 1)]) _
    refine XS.goto X24.here hx rfl (pc0 := 12) (pc' := 16) rfl (hb hby d19_12) (by decide) (by decide) ?_
    exact kt))
  exact ⟨some (.int 1), T24, _, _, _, _, X24, by decide, by decide, nofun, q25, fun fs hr => retN X24 hx (t := .boolean) hret (by simp) (hb hby d19_16) hr, by rw [e24]; exact ⟨rfl, N0, rfl⟩⟩
theorem d19_15 : decode jdk_53_method_3_code 15 = .ok (.iconst 0, 1) := by decide +kernel
def Q_rm19N (Z : State) (a1 : Addr) (zc : Int32) (zs : Int32) (cw : Nat → Nat) (z_cs : Int32) (h0 : Heap) (n0 : Nat) (v : Option Value) (h : Heap) (L : List Loc) : Prop := v = some (.int 0) ∧ Fr n0 L ∧ h = h0
theorem rm19N (l : Launch) (Z : State) (a0 : Array Value) (hw : ∀ d ∈ tables_1, d.before a0 Z = true) (ws : List Jvm.Cond) {cw : Nat → Nat} {z_cs : Int32} (cx : Cx Z cw z_cs) (a1 : Addr) (zc : Int32) (zs : Int32) (h0 : Heap) (n0 : Nat) (O0 : Old Z n0 h0) (G0 : Fld Z h0 a1 sk20 "cursor" "I" (.int zc)) (G1 : Fld Z h0 a1 sk20 "size" "I" (.int zs)) (hz : zc = zs) :
    OwnMet l ym41 (Jvm.Cond.code ym41 jdk_53_method_3_code 1 (some .boolean) :: ws) (own_R 0 0 0 0) #[(.ref a1)] Z h0 (Q_rm19N Z a1 zc zs cw z_cs h0 n0) := by
  refine own_body (plainFor_of_name pn_19) hisR fun p e s m below meth c s₁ hx hby hml hown hnm hret hZ X0 e0 => ?_
  have N0 := Fr.nil n0
  have pre0 : ∀ t, Go p e below s₁ (mkF m 0 #[vR a1] []) t → Go p e below s₁ (entryFrame m #[(.ref a1)] 1) t := fun t k => castTop (ef_19_R m a1) k
  have q21 := fun t (kt : Go p e below s₁ (mkF m 1 #[vR a1] [(.ref a1)]) t) => pre0 t (by
    show Go _ _ _ _ (mkF m 0 #[vR a1] []) _
    refine XS.aloadN X0.here hx rfl (hb hby d19_0) rfl rfl ?_
    exact kt)
  obtain ⟨T22, X22, e22, st22⟩ := getF X0 hx hZ hown (host := "") (Or.inl (ox hw 151 rfl)) Via.refl e0 G0 (g := (mkF m 1 #[vR a1] [(.ref a1)])) rfl rfl (hb hby d19_1)
  have q23 := fun t (kt : Go p e below T22 (mkF m 5 #[vR a1] [(.ref a1), (.int zc)]) t) => q21 t (st22 t (by
    show Go _ _ _ _ (mkF m 4 #[vR a1] [(.int zc)]) _
    refine XS.aloadN X22.here hx rfl (hb hby d19_4) rfl rfl ?_
    exact kt))
  obtain ⟨T24, X24, e24, st24⟩ := getF X22 hx hZ hown (host := "") (Or.inl (ox hw 149 rfl)) Via.refl e22 G1 (g := (mkF m 5 #[vR a1] [(.ref a1), (.int zc)])) rfl rfl (hb hby d19_5)
  have q25 := fun t (kt : Go p e below T24 (mkF m 16 #[vR a1] [(.int 0)]) t) => q23 t (st24 t (by
    show Go _ _ _ _ (mkF m 8 #[vR a1] [(.int zs), (.int zc)]) _
    refine XS.icmpYes X24.here hx rfl (pc0 := 8) (pc' := 15) rfl (hb hby d19_8) rfl (teq hz).1 (by decide) (by decide) ?_
    show Go _ _ _ _ (mkF m 15 _ []) _
    refine XS.iconst X24.here hx rfl (hb hby d19_15) ?_
    exact kt))
  exact ⟨some (.int 0), T24, _, _, _, _, X24, by decide, by decide, nofun, q25, fun fs hr => retN X24 hx (t := .boolean) hret (by simp) (hb hby d19_16) hr, by rw [e24]; exact ⟨rfl, N0, rfl⟩⟩
theorem ef_43_RI (m : MethodId) (x0 : Addr) (x1 : Int32) : entryFrame m #[(.ref x0), (.int x1)] 2 = mkF m 0 #[.val (.ref x0), .val (.int x1)] [] := by first | (simp [entryFrame, mkF, argsToLocals, Value.category]; done) | rfl
theorem pn_43 : plainName "java/util/ImmutableCollections$ListN" = true := by first | (simp [plainName, overriddenIn]; done) | decide +kernel
theorem d43_0 : decode jdk_45_method_4_code 0 = .ok (.aload_n 0, 1) := by decide +kernel
theorem d43_1 : decode jdk_45_method_4_code 1 = .ok (.getfield 7, 3) := by decide +kernel
theorem d43_4 : decode jdk_45_method_4_code 4 = .ok (.iload_n 1, 1) := by decide +kernel
theorem d43_5 : decode jdk_45_method_4_code 5 = .ok (.aaload, 1) := by decide +kernel
theorem d43_6 : decode jdk_45_method_4_code 6 = .ok (.areturn, 1) := by decide +kernel
def Q_rm43_0 (Z : State) (a1 : Addr) (x1 : Addr) (x2 : Addr) (x3 : Addr) (ra : Addr) (kr : ClassId) (cw : Nat → Nat) (z_cs : Int32) (h0 : Heap) (n0 : Nat) (v : Option Value) (h : Heap) (L : List Loc) : Prop := v = some (.ref x1) ∧ Fr n0 L ∧ h = h0
theorem rm43_0 (l : Launch) (Z : State) (a0 : Array Value) (hw : ∀ d ∈ tables_1, d.before a0 Z = true) (ws : List Jvm.Cond) {cw : Nat → Nat} {z_cs : Int32} (cx : Cx Z cw z_cs) (a1 : Addr) (x1 : Addr) (x2 : Addr) (x3 : Addr) (ra : Addr) (kr : ClassId) (h0 : Heap) (n0 : Nat) (O0 : Old Z n0 h0) (G0 : Exa Z h0 a1 sk21) (G1 : Fld Z h0 a1 sk21 "elements" sk6 (.ref ra)) (G2 : Arv Z h0 ra kr (.object sk14) (3 : Int32) [(.ref x1), (.ref x2), (.ref x3)] .null) :
    OwnMet l ym42 (Jvm.Cond.code ym42 jdk_45_method_4_code 2 (some (.object sk14)) :: ws) (own_R 0 0 0 0) #[(.ref a1), (.int 0)] Z h0 (Q_rm43_0 Z a1 x1 x2 x3 ra kr cw z_cs h0 n0) := by
  refine own_body (plainFor_of_name pn_43) hisR fun p e s m below meth c s₁ hx hby hml hown hnm hret hZ X0 e0 => ?_
  have N0 := Fr.nil n0
  have pre0 : ∀ t, Go p e below s₁ (mkF m 0 #[vR a1, vI 0] []) t → Go p e below s₁ (entryFrame m #[(.ref a1), (.int 0)] 2) t := fun t k => castTop (ef_43_RI m a1 (0 : Int32)) k
  have q21 := fun t (kt : Go p e below s₁ (mkF m 1 #[vR a1, vI 0] [(.ref a1)]) t) => pre0 t (by
    show Go _ _ _ _ (mkF m 0 #[vR a1, vI 0] []) _
    refine XS.aloadN X0.here hx rfl (hb hby d43_0) rfl rfl ?_
    exact kt)
  obtain ⟨T22, X22, e22, st22⟩ := getF X0 hx hZ hown (host := "") (Or.inl (ox hw 140 rfl)) Via.refl e0 G1 (g := (mkF m 1 #[vR a1, vI 0] [(.ref a1)])) rfl rfl (hb hby d43_1)
  have q24 := fun t (kt : Go p e below T22 (mkF m 5 #[vR a1, vI 0] [(.int 0), (.ref ra)]) t) => q21 t (st22 t (by
    show Go _ _ _ _ (mkF m 4 #[vR a1, vI 0] [(.ref ra)]) _
    refine XS.iloadN X22.here hx rfl (hb hby d43_4) rfl ?_
    exact kt))
  obtain ⟨c23, Ar23, -, S23, N23, H23, -⟩ := id G2
  have q25 := fun t (kt : Go p e below T22 (mkF m 6 #[vR a1, vI 0] [(.ref x1)]) t) => q24 t (by
    show Go _ _ _ _ (mkF m 5 #[vR a1, vI 0] [(.int 0), (.ref ra)]) _
    refine X22.aaload hx (j := (0 : Int32)) (v := (.ref x1)) (by rw [e22]; exact Ar23.1) (State.isArrayOf_alike hZ.alike Ar23.2.1) rfl Ar23.2.2 (inb_of S23 ⟨by decide, by decide⟩) (Has.at H23 (inb_of S23 ⟨by decide, by decide⟩) rfl) (g := (mkF m 5 #[vR a1, vI 0] [(.int 0), (.ref ra)])) rfl rfl (hb hby d43_5) _ ?_
    exact kt)
  exact ⟨some (.ref x1), T22, _, _, _, _, X22, by decide, by decide, nofun, q25, fun fs hr => retOut X22 hx hret rfl (o4 ⟨rfl, rfl, rfl⟩) (hb hby d43_6) hr, by rw [e22]; exact ⟨rfl, N0, rfl⟩⟩
def Q_rm43_1 (Z : State) (a1 : Addr) (x1 : Addr) (x2 : Addr) (x3 : Addr) (ra : Addr) (kr : ClassId) (cw : Nat → Nat) (z_cs : Int32) (h0 : Heap) (n0 : Nat) (v : Option Value) (h : Heap) (L : List Loc) : Prop := v = some (.ref x2) ∧ Fr n0 L ∧ h = h0
theorem rm43_1 (l : Launch) (Z : State) (a0 : Array Value) (hw : ∀ d ∈ tables_1, d.before a0 Z = true) (ws : List Jvm.Cond) {cw : Nat → Nat} {z_cs : Int32} (cx : Cx Z cw z_cs) (a1 : Addr) (x1 : Addr) (x2 : Addr) (x3 : Addr) (ra : Addr) (kr : ClassId) (h0 : Heap) (n0 : Nat) (O0 : Old Z n0 h0) (G0 : Exa Z h0 a1 sk21) (G1 : Fld Z h0 a1 sk21 "elements" sk6 (.ref ra)) (G2 : Arv Z h0 ra kr (.object sk14) (3 : Int32) [(.ref x1), (.ref x2), (.ref x3)] .null) :
    OwnMet l ym42 (Jvm.Cond.code ym42 jdk_45_method_4_code 2 (some (.object sk14)) :: ws) (own_R 0 0 0 0) #[(.ref a1), (.int 1)] Z h0 (Q_rm43_1 Z a1 x1 x2 x3 ra kr cw z_cs h0 n0) := by
  refine own_body (plainFor_of_name pn_43) hisR fun p e s m below meth c s₁ hx hby hml hown hnm hret hZ X0 e0 => ?_
  have N0 := Fr.nil n0
  have pre0 : ∀ t, Go p e below s₁ (mkF m 0 #[vR a1, vI 1] []) t → Go p e below s₁ (entryFrame m #[(.ref a1), (.int 1)] 2) t := fun t k => castTop (ef_43_RI m a1 (1 : Int32)) k
  have q21 := fun t (kt : Go p e below s₁ (mkF m 1 #[vR a1, vI 1] [(.ref a1)]) t) => pre0 t (by
    show Go _ _ _ _ (mkF m 0 #[vR a1, vI 1] []) _
    refine XS.aloadN X0.here hx rfl (hb hby d43_0) rfl rfl ?_
    exact kt)
  obtain ⟨T22, X22, e22, st22⟩ := getF X0 hx hZ hown (host := "") (Or.inl (ox hw 140 rfl)) Via.refl e0 G1 (g := (mkF m 1 #[vR a1, vI 1] [(.ref a1)])) rfl rfl (hb hby d43_1)
  have q24 := fun t (kt : Go p e below T22 (mkF m 5 #[vR a1, vI 1] [(.int 1), (.ref ra)]) t) => q21 t (st22 t (by
    show Go _ _ _ _ (mkF m 4 #[vR a1, vI 1] [(.ref ra)]) _
    refine XS.iloadN X22.here hx rfl (hb hby d43_4) rfl ?_
    exact kt))
  obtain ⟨c23, Ar23, -, S23, N23, H23, -⟩ := id G2
  have q25 := fun t (kt : Go p e below T22 (mkF m 6 #[vR a1, vI 1] [(.ref x2)]) t) => q24 t (by
    show Go _ _ _ _ (mkF m 5 #[vR a1, vI 1] [(.int 1), (.ref ra)]) _
    refine X22.aaload hx (j := (1 : Int32)) (v := (.ref x2)) (by rw [e22]; exact Ar23.1) (State.isArrayOf_alike hZ.alike Ar23.2.1) rfl Ar23.2.2 (inb_of S23 ⟨by decide, by decide⟩) (Has.at H23 (inb_of S23 ⟨by decide, by decide⟩) rfl) (g := (mkF m 5 #[vR a1, vI 1] [(.int 1), (.ref ra)])) rfl rfl (hb hby d43_5) _ ?_
    exact kt)
  exact ⟨some (.ref x2), T22, _, _, _, _, X22, by decide, by decide, nofun, q25, fun fs hr => retOut X22 hx hret rfl (o4 ⟨rfl, rfl, rfl⟩) (hb hby d43_6) hr, by rw [e22]; exact ⟨rfl, N0, rfl⟩⟩
def Q_rm43_2 (Z : State) (a1 : Addr) (x1 : Addr) (x2 : Addr) (x3 : Addr) (ra : Addr) (kr : ClassId) (cw : Nat → Nat) (z_cs : Int32) (h0 : Heap) (n0 : Nat) (v : Option Value) (h : Heap) (L : List Loc) : Prop := v = some (.ref x3) ∧ Fr n0 L ∧ h = h0
theorem rm43_2 (l : Launch) (Z : State) (a0 : Array Value) (hw : ∀ d ∈ tables_1, d.before a0 Z = true) (ws : List Jvm.Cond) {cw : Nat → Nat} {z_cs : Int32} (cx : Cx Z cw z_cs) (a1 : Addr) (x1 : Addr) (x2 : Addr) (x3 : Addr) (ra : Addr) (kr : ClassId) (h0 : Heap) (n0 : Nat) (O0 : Old Z n0 h0) (G0 : Exa Z h0 a1 sk21) (G1 : Fld Z h0 a1 sk21 "elements" sk6 (.ref ra)) (G2 : Arv Z h0 ra kr (.object sk14) (3 : Int32) [(.ref x1), (.ref x2), (.ref x3)] .null) :
    OwnMet l ym42 (Jvm.Cond.code ym42 jdk_45_method_4_code 2 (some (.object sk14)) :: ws) (own_R 0 0 0 0) #[(.ref a1), (.int 2)] Z h0 (Q_rm43_2 Z a1 x1 x2 x3 ra kr cw z_cs h0 n0) := by
  refine own_body (plainFor_of_name pn_43) hisR fun p e s m below meth c s₁ hx hby hml hown hnm hret hZ X0 e0 => ?_
  have N0 := Fr.nil n0
  have pre0 : ∀ t, Go p e below s₁ (mkF m 0 #[vR a1, vI 2] []) t → Go p e below s₁ (entryFrame m #[(.ref a1), (.int 2)] 2) t := fun t k => castTop (ef_43_RI m a1 (2 : Int32)) k
  have q21 := fun t (kt : Go p e below s₁ (mkF m 1 #[vR a1, vI 2] [(.ref a1)]) t) => pre0 t (by
    show Go _ _ _ _ (mkF m 0 #[vR a1, vI 2] []) _
    refine XS.aloadN X0.here hx rfl (hb hby d43_0) rfl rfl ?_
    exact kt)
  obtain ⟨T22, X22, e22, st22⟩ := getF X0 hx hZ hown (host := "") (Or.inl (ox hw 140 rfl)) Via.refl e0 G1 (g := (mkF m 1 #[vR a1, vI 2] [(.ref a1)])) rfl rfl (hb hby d43_1)
  have q24 := fun t (kt : Go p e below T22 (mkF m 5 #[vR a1, vI 2] [(.int 2), (.ref ra)]) t) => q21 t (st22 t (by
    show Go _ _ _ _ (mkF m 4 #[vR a1, vI 2] [(.ref ra)]) _
    refine XS.iloadN X22.here hx rfl (hb hby d43_4) rfl ?_
    exact kt))
  obtain ⟨c23, Ar23, -, S23, N23, H23, -⟩ := id G2
  have q25 := fun t (kt : Go p e below T22 (mkF m 6 #[vR a1, vI 2] [(.ref x3)]) t) => q24 t (by
    show Go _ _ _ _ (mkF m 5 #[vR a1, vI 2] [(.int 2), (.ref ra)]) _
    refine X22.aaload hx (j := (2 : Int32)) (v := (.ref x3)) (by rw [e22]; exact Ar23.1) (State.isArrayOf_alike hZ.alike Ar23.2.1) rfl Ar23.2.2 (inb_of S23 ⟨by decide, by decide⟩) (Has.at H23 (inb_of S23 ⟨by decide, by decide⟩) rfl) (g := (mkF m 5 #[vR a1, vI 2] [(.int 2), (.ref ra)])) rfl rfl (hb hby d43_5) _ ?_
    exact kt)
  exact ⟨some (.ref x3), T22, _, _, _, _, X22, by decide, by decide, nofun, q25, fun fs hr => retOut X22 hx hret rfl (o4 ⟨rfl, rfl, rfl⟩) (hb hby d43_6) hr, by rw [e22]; exact ⟨rfl, N0, rfl⟩⟩
theorem ef_52_RI (m : MethodId) (x0 : Addr) (x1 : Int32) : entryFrame m #[(.ref x0), (.int x1)] 2 = mkF m 0 #[.val (.ref x0), .val (.int x1)] [] := by first | (simp [entryFrame, mkF, argsToLocals, Value.category]; done) | rfl
theorem pn_52 : plainName "java/util/ImmutableCollections$List12" = true := by first | (simp [plainName, overriddenIn]; done) | decide +kernel
theorem d52_0 : decode jdk_44_method_5_code 0 = .ok (.iload_n 1, 1) := by decide +kernel
theorem d52_1 : decode jdk_44_method_5_code 1 = .ok (.ifCond .ne 8, 3) := by decide +kernel
theorem d52_4 : decode jdk_44_method_5_code 4 = .ok (.aload_n 0, 1) := by decide +kernel
theorem d52_5 : decode jdk_44_method_5_code 5 = .ok (.getfield 13, 3) := by decide +kernel
theorem d52_8 : decode jdk_44_method_5_code 8 = .ok (.areturn, 1) := by decide +kernel
def Q_rm52_10 (Z : State) (a1 : Addr) (x1 : Addr) (cw : Nat → Nat) (z_cs : Int32) (h0 : Heap) (n0 : Nat) (v : Option Value) (h : Heap) (L : List Loc) : Prop := v = some (.ref x1) ∧ Fr n0 L ∧ h = h0
theorem rm52_10 (l : Launch) (Z : State) (a0 : Array Value) (hw : ∀ d ∈ tables_1, d.before a0 Z = true) (ws : List Jvm.Cond) {cw : Nat → Nat} {z_cs : Int32} (cx : Cx Z cw z_cs) (a1 : Addr) (x1 : Addr) (h0 : Heap) (n0 : Nat) (O0 : Old Z n0 h0) (G0 : Exa Z h0 a1 sk19) (G1 : Fld Z h0 a1 sk19 "e0" sk3 (.ref x1)) (G2 : Fld Z h0 a1 sk19 "e1" sk3 (.ref (cw 19))) :
    OwnMet l ym43 (Jvm.Cond.code ym43 jdk_44_method_5_code 2 (some (.object sk14)) :: ws) (own_R 0 0 0 0) #[(.ref a1), (.int 0)] Z h0 (Q_rm52_10 Z a1 x1 cw z_cs h0 n0) := by
  refine own_body (plainFor_of_name pn_52) hisR fun p e s m below meth c s₁ hx hby hml hown hnm hret hZ X0 e0 => ?_
  have N0 := Fr.nil n0
  have pre0 : ∀ t, Go p e below s₁ (mkF m 0 #[vR a1, vI 0] []) t → Go p e below s₁ (entryFrame m #[(.ref a1), (.int 0)] 2) t := fun t k => castTop (ef_52_RI m a1 (0 : Int32)) k
  have q21 := fun t (kt : Go p e below s₁ (mkF m 5 #[vR a1, vI 0] [(.ref a1)]) t) => pre0 t (by
    show Go _ _ _ _ (mkF m 0 #[vR a1, vI 0] []) _
    refine XS.iloadN X0.here hx rfl (hb hby d52_0) rfl ?_
    show Go _ _ _ _ (mkF m 1 _ [(.int 0)]) _
    refine XS.ifNo X0.here hx rfl (hb hby d52_1) rfl ((if0 _ _).trans (teq (rfl : (0 : Int32) = (0 : Int32))).2) ?_
    show Go _ _ _ _ (mkF m 4 _ []) _
    refine XS.aloadN X0.here hx rfl (hb hby d52_4) rfl rfl ?_
    exact kt)
  obtain ⟨T22, X22, e22, st22⟩ := getF X0 hx hZ hown (host := "") (Or.inl (ox hw 306 rfl)) Via.refl e0 G1 (g := (mkF m 5 #[vR a1, vI 0] [(.ref a1)])) rfl rfl (hb hby d52_5)
  have q23 := fun t (kt : Go p e below T22 (mkF m 8 #[vR a1, vI 0] [(.ref x1)]) t) => q21 t (st22 t kt)
  exact ⟨some (.ref x1), T22, _, _, _, _, X22, by decide, by decide, nofun, q23, fun fs hr => retOut X22 hx hret rfl (o4 ⟨rfl, rfl, rfl⟩) (hb hby d52_8) hr, by rw [e22]; exact ⟨rfl, N0, rfl⟩⟩
def Q_rm52_20 (Z : State) (a1 : Addr) (x1 : Addr) (x2 : Addr) (cw : Nat → Nat) (z_cs : Int32) (h0 : Heap) (n0 : Nat) (v : Option Value) (h : Heap) (L : List Loc) : Prop := v = some (.ref x1) ∧ Fr n0 L ∧ h = h0
theorem rm52_20 (l : Launch) (Z : State) (a0 : Array Value) (hw : ∀ d ∈ tables_1, d.before a0 Z = true) (ws : List Jvm.Cond) {cw : Nat → Nat} {z_cs : Int32} (cx : Cx Z cw z_cs) (a1 : Addr) (x1 : Addr) (x2 : Addr) (h0 : Heap) (n0 : Nat) (O0 : Old Z n0 h0) (G0 : Exa Z h0 a1 sk19) (G1 : Fld Z h0 a1 sk19 "e0" sk3 (.ref x1)) (G2 : Fld Z h0 a1 sk19 "e1" sk3 (.ref x2)) (g_x2 : n0 ≤ x2) :
    OwnMet l ym43 (Jvm.Cond.code ym43 jdk_44_method_5_code 2 (some (.object sk14)) :: ws) (own_R 0 0 0 0) #[(.ref a1), (.int 0)] Z h0 (Q_rm52_20 Z a1 x1 x2 cw z_cs h0 n0) := by
  refine own_body (plainFor_of_name pn_52) hisR fun p e s m below meth c s₁ hx hby hml hown hnm hret hZ X0 e0 => ?_
  have N0 := Fr.nil n0
  have pre0 : ∀ t, Go p e below s₁ (mkF m 0 #[vR a1, vI 0] []) t → Go p e below s₁ (entryFrame m #[(.ref a1), (.int 0)] 2) t := fun t k => castTop (ef_52_RI m a1 (0 : Int32)) k
  have q21 := fun t (kt : Go p e below s₁ (mkF m 5 #[vR a1, vI 0] [(.ref a1)]) t) => pre0 t (by
    show Go _ _ _ _ (mkF m 0 #[vR a1, vI 0] []) _
    refine XS.iloadN X0.here hx rfl (hb hby d52_0) rfl ?_
    show Go _ _ _ _ (mkF m 1 _ [(.int 0)]) _
    refine XS.ifNo X0.here hx rfl (hb hby d52_1) rfl ((if0 _ _).trans (teq (rfl : (0 : Int32) = (0 : Int32))).2) ?_
    show Go _ _ _ _ (mkF m 4 _ []) _
    refine XS.aloadN X0.here hx rfl (hb hby d52_4) rfl rfl ?_
    exact kt)
  obtain ⟨T22, X22, e22, st22⟩ := getF X0 hx hZ hown (host := "") (Or.inl (ox hw 306 rfl)) Via.refl e0 G1 (g := (mkF m 5 #[vR a1, vI 0] [(.ref a1)])) rfl rfl (hb hby d52_5)
  have q23 := fun t (kt : Go p e below T22 (mkF m 8 #[vR a1, vI 0] [(.ref x1)]) t) => q21 t (st22 t kt)
  exact ⟨some (.ref x1), T22, _, _, _, _, X22, by decide, by decide, nofun, q23, fun fs hr => retOut X22 hx hret rfl (o4 ⟨rfl, rfl, rfl⟩) (hb hby d52_8) hr, by rw [e22]; exact ⟨rfl, N0, rfl⟩⟩
theorem d52_9 : decode jdk_44_method_5_code 9 = .ok (.iload_n 1, 1) := by decide +kernel
theorem d52_10 : decode jdk_44_method_5_code 10 = .ok (.iconst 1, 1) := by decide +kernel
theorem d52_11 : decode jdk_44_method_5_code 11 = .ok (.if_icmp .ne 18, 3) := by decide +kernel
theorem d52_14 : decode jdk_44_method_5_code 14 = .ok (.aload_n 0, 1) := by decide +kernel
theorem d52_15 : decode jdk_44_method_5_code 15 = .ok (.getfield 24, 3) := by decide +kernel
theorem d52_18 : decode jdk_44_method_5_code 18 = .ok (.getstatic 19, 3) := by decide +kernel
theorem d52_21 : decode jdk_44_method_5_code 21 = .ok (.if_acmp .eq 8, 3) := by decide +kernel
theorem d52_24 : decode jdk_44_method_5_code 24 = .ok (.aload_n 0, 1) := by decide +kernel
theorem d52_25 : decode jdk_44_method_5_code 25 = .ok (.getfield 24, 3) := by decide +kernel
theorem d52_28 : decode jdk_44_method_5_code 28 = .ok (.areturn, 1) := by decide +kernel
def Q_rm52_21 (Z : State) (a1 : Addr) (x1 : Addr) (x2 : Addr) (cw : Nat → Nat) (z_cs : Int32) (h0 : Heap) (n0 : Nat) (v : Option Value) (h : Heap) (L : List Loc) : Prop := v = some (.ref x2) ∧ Fr n0 L ∧ h = h0
theorem rm52_21 (l : Launch) (Z : State) (a0 : Array Value) (hw : ∀ d ∈ tables_1, d.before a0 Z = true) (ws : List Jvm.Cond) {cw : Nat → Nat} {z_cs : Int32} (cx : Cx Z cw z_cs) (a1 : Addr) (x1 : Addr) (x2 : Addr) (h0 : Heap) (n0 : Nat) (O0 : Old Z n0 h0) (G0 : Exa Z h0 a1 sk19) (G1 : Fld Z h0 a1 sk19 "e0" sk3 (.ref x1)) (G2 : Fld Z h0 a1 sk19 "e1" sk3 (.ref x2)) (g_x2 : n0 ≤ x2) :
    OwnMet l ym43 (Jvm.Cond.code ym43 jdk_44_method_5_code 2 (some (.object sk14)) :: ws) (own_R 0 0 0 0) #[(.ref a1), (.int 1)] Z h0 (Q_rm52_21 Z a1 x1 x2 cw z_cs h0 n0) := by
  refine own_body (plainFor_of_name pn_52) hisR fun p e s m below meth c s₁ hx hby hml hown hnm hret hZ X0 e0 => ?_
  have N0 := Fr.nil n0
  have pre0 : ∀ t, Go p e below s₁ (mkF m 0 #[vR a1, vI 1] []) t → Go p e below s₁ (entryFrame m #[(.ref a1), (.int 1)] 2) t := fun t k => castTop (ef_52_RI m a1 (1 : Int32)) k
  have q21 := fun t (kt : Go p e below s₁ (mkF m 15 #[vR a1, vI 1] [(.ref a1)]) t) => pre0 t (by
    show Go _ _ _ _ (mkF m 0 #[vR a1, vI 1] []) _
    refine XS.iloadN X0.here hx rfl (hb hby d52_0) rfl ?_
    show Go _ _ _ _ (mkF m 1 _ [(.int 1)]) _
    refine XS.ifYes X0.here hx rfl (pc0 := 1) (pc' := 9) rfl (hb hby d52_1) rfl ((if0 _ _).trans (feq (by decide : ¬ ((1 : Int32) = (0 : Int32)))).2) (by decide) (by decide) ?_
    show Go _ _ _ _ (mkF m 9 _ []) _
    refine XS.iloadN X0.here hx rfl (hb hby d52_9) rfl ?_
    show Go _ _ _ _ (mkF m 10 _ [(.int 1)]) _
    refine XS.iconst X0.here hx rfl (hb hby d52_10) ?_
    show Go _ _ _ _ (mkF m 11 _ [(.int 1), (.int 1)]) _
    refine XS.icmpNo X0.here hx rfl (hb hby d52_11) rfl (teq (rfl : (1 : Int32) = (1 : Int32))).2 ?_
    show Go _ _ _ _ (mkF m 14 _ []) _
    refine XS.aloadN X0.here hx rfl (hb hby d52_14) rfl rfl ?_
    exact kt)
  obtain ⟨T22, X22, e22, st22⟩ := getF X0 hx hZ hown (host := "") (Or.inl (ox hw 309 rfl)) Via.refl e0 G2 (g := (mkF m 15 #[vR a1, vI 1] [(.ref a1)])) rfl rfl (hb hby d52_15)
  obtain ⟨T23, X23, e23, st23⟩ := getS2 X22 hx hZ hown (Or.inr (ox hw 308 rfl)) Via.refl e22 (cx.2.2.2.2.2.2.2.2.2.2.2.2.2.2.2.2.2.2.2.2.2.2.2.2.2.2.2.2.2.2.2.2.2.2.2.2.2.2.2.2.1.ext O0.2) (g := (mkF m 18 #[vR a1, vI 1] [(.ref x2)])) rfl (hb hby d52_18)
  have ne24 : (cw 19) ≠ x2 := (Old.ne O0 cx.2.2.2.2.2.2.2.2.2.2.2.2.2.2.2.2.2.2.2.2.2.2.2.2.2.2.2.2.2.2.2.2.2.2.2.2.2.2.2.2.2.1.lt g_x2)
  have q25 := fun t (kt : Go p e below T23 (mkF m 25 #[vR a1, vI 1] [(.ref a1)]) t) => q21 t (st22 t (st23 t (by
    show Go _ _ _ _ (mkF m 21 #[vR a1, vI 1] [(.ref (cw 19)), (.ref x2)]) _
    refine Jvm.RoadKit.acmp (g := (mkF m 21 #[vR a1, vI 1] [(.ref (cw 19)), (.ref x2)])) X23 hx rfl rfl rfl (pc0 := 21) (pc' := 24) (same := false) rfl (hb hby d52_21) rfl (decide_eq_false (fun q => (Ne.symm ne24) (Value.ref.inj q))) (by decide) (by decide) ?_
    show Go _ _ _ _ (mkF m 24 _ []) _
    refine XS.aloadN X23.here hx rfl (hb hby d52_24) rfl rfl ?_
    exact kt)))
  obtain ⟨T26, X26, e26, st26⟩ := getF X23 hx hZ hown (host := "") (Or.inl (ox hw 309 rfl)) Via.refl e23 G2 (g := (mkF m 25 #[vR a1, vI 1] [(.ref a1)])) rfl rfl (hb hby d52_25)
  have q27 := fun t (kt : Go p e below T26 (mkF m 28 #[vR a1, vI 1] [(.ref x2)]) t) => q25 t (st26 t kt)
  exact ⟨some (.ref x2), T26, _, _, _, _, X26, by decide, by decide, nofun, q27, fun fs hr => retOut X26 hx hret rfl (o4 ⟨rfl, rfl, rfl⟩) (hb hby d52_28) hr, by rw [e26]; exact ⟨rfl, N0, rfl⟩⟩
theorem ef_42_R (m : MethodId) (x0 : Addr) : entryFrame m #[(.ref x0)] 3 = mkF m 0 #[.val (.ref x0), .unset, .unset] [] := by first | (simp [entryFrame, mkF, argsToLocals, Value.category]; done) | rfl
theorem pn_42 : plainName "java/util/ImmutableCollections$ListItr" = true := by first | (simp [plainName, overriddenIn]; done) | decide +kernel
theorem d42_0 : decode jdk_53_method_4_code 0 = .ok (.aload_n 0, 1) := by decide +kernel
theorem d42_1 : decode jdk_53_method_4_code 1 = .ok (.getfield 17, 3) := by decide +kernel
theorem d42_4 : decode jdk_53_method_4_code 4 = .ok (.istore_n 1, 1) := by decide +kernel
theorem d42_5 : decode jdk_53_method_4_code 5 = .ok (.aload_n 0, 1) := by decide +kernel
theorem d42_6 : decode jdk_53_method_4_code 6 = .ok (.getfield 7, 3) := by decide +kernel
theorem d42_9 : decode jdk_53_method_4_code 9 = .ok (.iload_n 1, 1) := by decide +kernel
theorem d42_10 : decode jdk_53_method_4_code 10 = .ok (.invokeinterface 24 2, 5) := by decide +kernel
theorem pd_23 : parseMethodDescriptor "(I)Ljava/lang/Object;" = some ⟨[.int], some (.object "java/lang/Object")⟩ := by decide +kernel
theorem d42_15 : decode jdk_53_method_4_code 15 = .ok (.astore_n 2, 1) := by decide +kernel
theorem d42_16 : decode jdk_53_method_4_code 16 = .ok (.aload_n 0, 1) := by decide +kernel
theorem d42_17 : decode jdk_53_method_4_code 17 = .ok (.iload_n 1, 1) := by decide +kernel
theorem d42_18 : decode jdk_53_method_4_code 18 = .ok (.iconst 1, 1) := by decide +kernel
theorem d42_19 : decode jdk_53_method_4_code 19 = .ok (.iadd, 1) := by decide +kernel
theorem d42_20 : decode jdk_53_method_4_code 20 = .ok (.putfield 17, 3) := by decide +kernel
theorem d42_23 : decode jdk_53_method_4_code 23 = .ok (.aload_n 2, 1) := by decide +kernel
theorem d42_24 : decode jdk_53_method_4_code 24 = .ok (.areturn, 1) := by decide +kernel
def Q_rm42_10 (Z : State) (a1 : Addr) (a2 : Addr) (x1 : Addr) (cw : Nat → Nat) (z_cs : Int32) (h0 : Heap) (n0 : Nat) (v : Option Value) (h : Heap) (L : List Loc) : Prop := v = some (.ref x1) ∧ Fr n0 L ∧ Keep h0 h [a1] ∧ Fld Z h a1 sk20 "list" sk5 (.ref a2) ∧ Fld Z h a1 sk20 "size" "I" (.int 1) ∧ Fld Z h a1 sk20 "cursor" "I" (.int 1)
theorem rm42_10 (l : Launch) (Z : State) (a0 : Array Value) (hw : ∀ d ∈ tables_1, d.before a0 Z = true) (ws : List Jvm.Cond) {cw : Nat → Nat} {z_cs : Int32} (cx : Cx Z cw z_cs) (a1 : Addr) (a2 : Addr) (x1 : Addr) (h0 : Heap) (n0 : Nat) (O0 : Old Z n0 h0) (G0 : Exa Z h0 a1 sk20) (G1 : Fld Z h0 a1 sk20 "list" sk5 (.ref a2)) (G2 : Fld Z h0 a1 sk20 "size" "I" (.int 1)) (G3 : Fld Z h0 a1 sk20 "cursor" "I" (.int 0)) (G4 : Exa Z h0 a2 sk19) (G5 : Fld Z h0 a2 sk19 "e0" sk3 (.ref x1)) (G6 : Fld Z h0 a2 sk19 "e1" sk3 (.ref (cw 19))) (g_a1 : n0 ≤ a1) :
    OwnMet l ym44 (Jvm.Cond.codeWith ({ cls := sk20, name := "next", desc := sk0 } : Jvm.MethodName) jdk_53_method_4_code (3 : Nat) (Option.some (Jvm.ClassFile.FieldType.object sk14)) [((0 : Nat), (24 : Nat), (25 : Nat), (30 : Nat))] :: ws) (own_R 1 0 0 13) #[(.ref a1)] Z h0 (Q_rm42_10 Z a1 a2 x1 cw z_cs h0 n0) := by
  refine own_body (plainFor_of_name pn_42) hisWith fun p e s m below meth c s₁ hx hby hml hown hnm hret hZ X0 e0 => ?_
  have N0 := Fr.nil n0
  have K0 : Keep h0 h0 [a1] := Keep.refl _ _
  have pre0 : ∀ t, Go p e below s₁ (mkF m 0 #[vR a1, vU, vU] []) t → Go p e below s₁ (entryFrame m #[(.ref a1)] 3) t := fun t k => castTop (ef_42_R m a1) k
  have q21 := fun t (kt : Go p e below s₁ (mkF m 1 #[vR a1, vU, vU] [(.ref a1)]) t) => pre0 t (by
    show Go _ _ _ _ (mkF m 0 #[vR a1, vU, vU] []) _
    refine XS.aloadN X0.here hx rfl (hb hby d42_0) rfl rfl ?_
    exact kt)
  obtain ⟨T22, X22, e22, st22⟩ := getF X0 hx hZ hown (host := "") (Or.inl (ox hw 151 rfl)) Via.refl e0 G3 (g := (mkF m 1 #[vR a1, vU, vU] [(.ref a1)])) rfl rfl (hb hby d42_1)
  have q23 := fun t (kt : Go p e below T22 (mkF m 6 #[vR a1, vI 0, vU] [(.ref a1)]) t) => q21 t (st22 t (by
    show Go _ _ _ _ (mkF m 4 #[vR a1, vU, vU] [(.int 0)]) _
    refine XS.istoreN X22.here hx rfl (hb hby d42_4) rfl (l' := #[vR a1, vI 0, vU]) rfl ?_
    show Go _ _ _ _ (mkF m 5 #[vR a1, vI 0, vU] []) _
    refine XS.aloadN X22.here hx rfl (hb hby d42_5) rfl rfl ?_
    exact kt))
  obtain ⟨T24, X24, e24, st24⟩ := getF X22 hx hZ hown (host := "") (Or.inl (ox hw 147 rfl)) Via.refl e22 G1 (g := (mkF m 6 #[vR a1, vI 0, vU] [(.ref a1)])) rfl rfl (hb hby d42_6)
  have q25 := fun t (kt : Go p e below T24 (mkF m 10 #[vR a1, vI 0, vU] [(.int 0), (.ref a2)]) t) => q23 t (st24 t (by
    show Go _ _ _ _ (mkF m 9 #[vR a1, vI 0, vU] [(.ref a2)]) _
    refine XS.iloadN X24.here hx rfl (hb hby d42_9) rfl ?_
    exact kt))
  obtain ⟨cq27, kq27, q27a, q27b, q27c⟩ := isOf hZ e24 G4
  obtain ⟨_, _, ⟨T26, L26, k26, n26⟩, -, X26, ⟨_, hQ26, l26, y26, z26⟩, st26⟩ := X24.interfaceBack hx (xi := ym45) (y := ym43) hown (ow hZ hw 319 rfl) (ow hZ hw 320 rfl) (ow hZ hw 321 rfl) (ow hZ hw 377 rfl) (ow hZ hw 378 rfl) (ow hZ hw 379 rfl) (ow hZ hw 380 rfl) (ow hZ hw 373 rfl) (by decide) (backOf (W := 0) (rm52_10 l Z a0 hw [] cx a2 x1 h0 n0 O0 G4 G5 G6) hZ (ox hw 381 rfl) (ox hw 296 rfl) (by decide) (by decide)) q27a q27b q27c (g := (mkF m 10 #[vR a1, vI 0, vU] [(.int 0), (.ref a2)])) rfl (by rw [hml]; rfl) (Steps.refl _) (argsL := [(.int 0)]) (rest := []) (lenOf pd_23 rfl) rfl own_le0 (hb hby d42_10) (fun _ _ => ⟨rfl, e24, (by decide : 0 + 0 ≤ _), (by decide : 0 + 0 ≤ _)⟩)
  dsimp only [Pt.U, Pt.locs, Pt.cells, Pt.slots] at X26 l26 y26 z26 st26 hQ26
  subst l26 y26 z26
  obtain ⟨rfl, Nq26, eq26⟩ := hQ26
  have N28 := Fr.app N0 Nq26
  have q29 := fun t (kt : Go p e below T26 (mkF m 20 #[vR a1, vI 0, vR x1] [(.int 1), (.ref a1)]) t) => q25 t (st26.trans (by
    show Go _ _ _ _ (mkF m 15 #[vR a1, vI 0, vU] [(.ref x1)]) _
    refine XS.astoreN X26.here hx rfl (hb hby d42_15) rfl rfl (l' := #[vR a1, vI 0, vR x1]) rfl ?_
    show Go _ _ _ _ (mkF m 16 #[vR a1, vI 0, vR x1] []) _
    refine XS.aloadN X26.here hx rfl (hb hby d42_16) rfl rfl ?_
    show Go _ _ _ _ (mkF m 17 _ [(.ref a1)]) _
    refine XS.iloadN X26.here hx rfl (hb hby d42_17) rfl ?_
    show Go _ _ _ _ (mkF m 18 _ [(.int 0), (.ref a1)]) _
    refine XS.iconst X26.here hx rfl (hb hby d42_18) ?_
    show Go _ _ _ _ (mkF m 19 _ [(.int 1), (.int 0), (.ref a1)]) _
    refine XS.iadd X26.here hx rfl (hb hby d42_19) rfl ?_
    exact kt))
  obtain ⟨T30, h30, X30, e30, W30, st30⟩ := putF X26 hx hZ hown (host := "") (Or.inl (ox hw 151 rfl)) Via.refl eq26 G3 G0 (Or.inl (ox hw 152 rfl)) (ox hw 131 rfl) (ty := .int) (by decide) rfl rfl (g := (mkF m 20 #[vR a1, vI 0, vR x1] [(.int 1), (.ref a1)])) rfl rfl (hb hby d42_20)
  have f31 : Fld Z h30 a1 sk20 "cursor" "I" (.int 1) := G3.same W30
  have N32 := Fr.snoc X30 N28 g_a1
  have O33 := O0.wr W30 g_a1
  have K34 := K0.wr W30 (Or.inl (List.mem_of_getElem? (i := 0) rfl))
  have q35 := fun t (kt : Go p e below T30 (mkF m 24 #[vR a1, vI 0, vR x1] [(.ref x1)]) t) => q29 t (st30 t (by
    show Go _ _ _ _ (mkF m 23 #[vR a1, vI 0, vR x1] []) _
    refine XS.aloadN X30.here hx rfl (hb hby d42_23) rfl rfl ?_
    exact kt))
  have f36 := (G1.other W30 (Or.inr (slot_ne (Or.inr (ox hw 148 rfl)) (Or.inl (ox hw 152 rfl)) (by decide) (t := (.object sk23)) (t' := .int) (by decide) (by decide))))
  have f37 := (G2.other W30 (Or.inr (slot_ne (Or.inr (ox hw 150 rfl)) (Or.inl (ox hw 152 rfl)) (by decide) (t := .int) (t' := .int) (by decide) (by decide))))
  exact ⟨some (.ref x1), T30, _, _, _, _, X30, by decide, by decide, nofun, q35, fun fs hr => retOut X30 hx hret rfl (o4 ⟨rfl, rfl, rfl⟩) (hb hby d42_24) hr, by rw [e30]; exact ⟨rfl, N32, K34, f36, f37, f31⟩⟩
def Q_rm42_20 (Z : State) (a1 : Addr) (a2 : Addr) (x1 : Addr) (x2 : Addr) (cw : Nat → Nat) (z_cs : Int32) (h0 : Heap) (n0 : Nat) (v : Option Value) (h : Heap) (L : List Loc) : Prop := v = some (.ref x1) ∧ Fr n0 L ∧ Keep h0 h [a1] ∧ Fld Z h a1 sk20 "list" sk5 (.ref a2) ∧ Fld Z h a1 sk20 "size" "I" (.int 2) ∧ Fld Z h a1 sk20 "cursor" "I" (.int 1)
theorem rm42_20 (l : Launch) (Z : State) (a0 : Array Value) (hw : ∀ d ∈ tables_1, d.before a0 Z = true) (ws : List Jvm.Cond) {cw : Nat → Nat} {z_cs : Int32} (cx : Cx Z cw z_cs) (a1 : Addr) (a2 : Addr) (x1 : Addr) (x2 : Addr) (h0 : Heap) (n0 : Nat) (O0 : Old Z n0 h0) (G0 : Exa Z h0 a1 sk20) (G1 : Fld Z h0 a1 sk20 "list" sk5 (.ref a2)) (G2 : Fld Z h0 a1 sk20 "size" "I" (.int 2)) (G3 : Fld Z h0 a1 sk20 "cursor" "I" (.int 0)) (G4 : Exa Z h0 a2 sk19) (G5 : Fld Z h0 a2 sk19 "e0" sk3 (.ref x1)) (G6 : Fld Z h0 a2 sk19 "e1" sk3 (.ref x2)) (g_a1 : n0 ≤ a1) (g_x2 : n0 ≤ x2) :
    OwnMet l ym44 (Jvm.Cond.codeWith ({ cls := sk20, name := "next", desc := sk0 } : Jvm.MethodName) jdk_53_method_4_code (3 : Nat) (Option.some (Jvm.ClassFile.FieldType.object sk14)) [((0 : Nat), (24 : Nat), (25 : Nat), (30 : Nat))] :: ws) (own_R 1 0 0 13) #[(.ref a1)] Z h0 (Q_rm42_20 Z a1 a2 x1 x2 cw z_cs h0 n0) := by
  refine own_body (plainFor_of_name pn_42) hisWith fun p e s m below meth c s₁ hx hby hml hown hnm hret hZ X0 e0 => ?_
  have N0 := Fr.nil n0
  have K0 : Keep h0 h0 [a1] := Keep.refl _ _
  have pre0 : ∀ t, Go p e below s₁ (mkF m 0 #[vR a1, vU, vU] []) t → Go p e below s₁ (entryFrame m #[(.ref a1)] 3) t := fun t k => castTop (ef_42_R m a1) k
  have q21 := fun t (kt : Go p e below s₁ (mkF m 1 #[vR a1, vU, vU] [(.ref a1)]) t) => pre0 t (by
    show Go _ _ _ _ (mkF m 0 #[vR a1, vU, vU] []) _
    refine XS.aloadN X0.here hx rfl (hb hby d42_0) rfl rfl ?_
    exact kt)
  obtain ⟨T22, X22, e22, st22⟩ := getF X0 hx hZ hown (host := "") (Or.inl (ox hw 151 rfl)) Via.refl e0 G3 (g := (mkF m 1 #[vR a1, vU, vU] [(.ref a1)])) rfl rfl (hb hby d42_1)
  have q23 := fun t (kt : Go p e below T22 (mkF m 6 #[vR a1, vI 0, vU] [(.ref a1)]) t) => q21 t (st22 t (by
    show Go _ _ _ _ (mkF m 4 #[vR a1, vU, vU] [(.int 0)]) _
    refine XS.istoreN X22.here hx rfl (hb hby d42_4) rfl (l' := #[vR a1, vI 0, vU]) rfl ?_
    show Go _ _ _ _ (mkF m 5 #[vR a1, vI 0, vU] []) _
    refine XS.aloadN X22.here hx rfl (hb hby d42_5) rfl rfl ?_
    exact kt))
  obtain ⟨T24, X24, e24, st24⟩ := getF X22 hx hZ hown (host := "") (Or.inl (ox hw 147 rfl)) Via.refl e22 G1 (g := (mkF m 6 #[vR a1, vI 0, vU] [(.ref a1)])) rfl rfl (hb hby d42_6)
  have q25 := fun t (kt : Go p e below T24 (mkF m 10 #[vR a1, vI 0, vU] [(.int 0), (.ref a2)]) t) => q23 t (st24 t (by
    show Go _ _ _ _ (mkF m 9 #[vR a1, vI 0, vU] [(.ref a2)]) _
    refine XS.iloadN X24.here hx rfl (hb hby d42_9) rfl ?_
    exact kt))
  obtain ⟨cq27, kq27, q27a, q27b, q27c⟩ := isOf hZ e24 G4
  obtain ⟨_, _, ⟨T26, L26, k26, n26⟩, -, X26, ⟨_, hQ26, l26, y26, z26⟩, st26⟩ := X24.interfaceBack hx (xi := ym45) (y := ym43) hown (ow hZ hw 319 rfl) (ow hZ hw 320 rfl) (ow hZ hw 321 rfl) (ow hZ hw 377 rfl) (ow hZ hw 378 rfl) (ow hZ hw 379 rfl) (ow hZ hw 380 rfl) (ow hZ hw 373 rfl) (by decide) (backOf (W := 0) (rm52_20 l Z a0 hw [] cx a2 x1 x2 h0 n0 O0 G4 G5 G6 g_x2) hZ (ox hw 381 rfl) (ox hw 296 rfl) (by decide) (by decide)) q27a q27b q27c (g := (mkF m 10 #[vR a1, vI 0, vU] [(.int 0), (.ref a2)])) rfl (by rw [hml]; rfl) (Steps.refl _) (argsL := [(.int 0)]) (rest := []) (lenOf pd_23 rfl) rfl own_le0 (hb hby d42_10) (fun _ _ => ⟨rfl, e24, (by decide : 0 + 0 ≤ _), (by decide : 0 + 0 ≤ _)⟩)
  dsimp only [Pt.U, Pt.locs, Pt.cells, Pt.slots] at X26 l26 y26 z26 st26 hQ26
  subst l26 y26 z26
  obtain ⟨rfl, Nq26, eq26⟩ := hQ26
  have N28 := Fr.app N0 Nq26
  have q29 := fun t (kt : Go p e below T26 (mkF m 20 #[vR a1, vI 0, vR x1] [(.int 1), (.ref a1)]) t) => q25 t (st26.trans (by
    show Go _ _ _ _ (mkF m 15 #[vR a1, vI 0, vU] [(.ref x1)]) _
    refine XS.astoreN X26.here hx rfl (hb hby d42_15) rfl rfl (l' := #[vR a1, vI 0, vR x1]) rfl ?_
    show Go _ _ _ _ (mkF m 16 #[vR a1, vI 0, vR x1] []) _
    refine XS.aloadN X26.here hx rfl (hb hby d42_16) rfl rfl ?_
    show Go _ _ _ _ (mkF m 17 _ [(.ref a1)]) _
    refine XS.iloadN X26.here hx rfl (hb hby d42_17) rfl ?_
    show Go _ _ _ _ (mkF m 18 _ [(.int 0), (.ref a1)]) _
    refine XS.iconst X26.here hx rfl (hb hby d42_18) ?_
    show Go _ _ _ _ (mkF m 19 _ [(.int 1), (.int 0), (.ref a1)]) _
    refine XS.iadd X26.here hx rfl (hb hby d42_19) rfl ?_
    exact kt))
  obtain ⟨T30, h30, X30, e30, W30, st30⟩ := putF X26 hx hZ hown (host := "") (Or.inl (ox hw 151 rfl)) Via.refl eq26 G3 G0 (Or.inl (ox hw 152 rfl)) (ox hw 131 rfl) (ty := .int) (by decide) rfl rfl (g := (mkF m 20 #[vR a1, vI 0, vR x1] [(.int 1), (.ref a1)])) rfl rfl (hb hby d42_20)
  have f31 : Fld Z h30 a1 sk20 "cursor" "I" (.int 1) := G3.same W30
  have N32 := Fr.snoc X30 N28 g_a1
  have O33 := O0.wr W30 g_a1
  have K34 := K0.wr W30 (Or.inl (List.mem_of_getElem? (i := 0) rfl))
  have q35 := fun t (kt : Go p e below T30 (mkF m 24 #[vR a1, vI 0, vR x1] [(.ref x1)]) t) => q29 t (st30 t (by
    show Go _ _ _ _ (mkF m 23 #[vR a1, vI 0, vR x1] []) _
    refine XS.aloadN X30.here hx rfl (hb hby d42_23) rfl rfl ?_
    exact kt))
  have f36 := (G1.other W30 (Or.inr (slot_ne (Or.inr (ox hw 148 rfl)) (Or.inl (ox hw 152 rfl)) (by decide) (t := (.object sk23)) (t' := .int) (by decide) (by decide))))
  have f37 := (G2.other W30 (Or.inr (slot_ne (Or.inr (ox hw 150 rfl)) (Or.inl (ox hw 152 rfl)) (by decide) (t := .int) (t' := .int) (by decide) (by decide))))
  exact ⟨some (.ref x1), T30, _, _, _, _, X30, by decide, by decide, nofun, q35, fun fs hr => retOut X30 hx hret rfl (o4 ⟨rfl, rfl, rfl⟩) (hb hby d42_24) hr, by rw [e30]; exact ⟨rfl, N32, K34, f36, f37, f31⟩⟩
def Q_rm42_21 (Z : State) (a1 : Addr) (a2 : Addr) (x1 : Addr) (x2 : Addr) (cw : Nat → Nat) (z_cs : Int32) (h0 : Heap) (n0 : Nat) (v : Option Value) (h : Heap) (L : List Loc) : Prop := v = some (.ref x2) ∧ Fr n0 L ∧ Keep h0 h [a1] ∧ Fld Z h a1 sk20 "list" sk5 (.ref a2) ∧ Fld Z h a1 sk20 "size" "I" (.int 2) ∧ Fld Z h a1 sk20 "cursor" "I" (.int 2)
theorem rm42_21 (l : Launch) (Z : State) (a0 : Array Value) (hw : ∀ d ∈ tables_1, d.before a0 Z = true) (ws : List Jvm.Cond) {cw : Nat → Nat} {z_cs : Int32} (cx : Cx Z cw z_cs) (a1 : Addr) (a2 : Addr) (x1 : Addr) (x2 : Addr) (h0 : Heap) (n0 : Nat) (O0 : Old Z n0 h0) (G0 : Exa Z h0 a1 sk20) (G1 : Fld Z h0 a1 sk20 "list" sk5 (.ref a2)) (G2 : Fld Z h0 a1 sk20 "size" "I" (.int 2)) (G3 : Fld Z h0 a1 sk20 "cursor" "I" (.int 1)) (G4 : Exa Z h0 a2 sk19) (G5 : Fld Z h0 a2 sk19 "e0" sk3 (.ref x1)) (G6 : Fld Z h0 a2 sk19 "e1" sk3 (.ref x2)) (g_a1 : n0 ≤ a1) (g_x2 : n0 ≤ x2) :
    OwnMet l ym44 (Jvm.Cond.codeWith ({ cls := sk20, name := "next", desc := sk0 } : Jvm.MethodName) jdk_53_method_4_code (3 : Nat) (Option.some (Jvm.ClassFile.FieldType.object sk14)) [((0 : Nat), (24 : Nat), (25 : Nat), (30 : Nat))] :: ws) (own_R 1 0 0 13) #[(.ref a1)] Z h0 (Q_rm42_21 Z a1 a2 x1 x2 cw z_cs h0 n0) := by
  refine own_body (plainFor_of_name pn_42) hisWith fun p e s m below meth c s₁ hx hby hml hown hnm hret hZ X0 e0 => ?_
  have N0 := Fr.nil n0
  have K0 : Keep h0 h0 [a1] := Keep.refl _ _
  have pre0 : ∀ t, Go p e below s₁ (mkF m 0 #[vR a1, vU, vU] []) t → Go p e below s₁ (entryFrame m #[(.ref a1)] 3) t := fun t k => castTop (ef_42_R m a1) k
  have q21 := fun t (kt : Go p e below s₁ (mkF m 1 #[vR a1, vU, vU] [(.ref a1)]) t) => pre0 t (by
    show Go _ _ _ _ (mkF m 0 #[vR a1, vU, vU] []) _
    refine XS.aloadN X0.here hx rfl (hb hby d42_0) rfl rfl ?_
    exact kt)
  obtain ⟨T22, X22, e22, st22⟩ := getF X0 hx hZ hown (host := "") (Or.inl (ox hw 151 rfl)) Via.refl e0 G3 (g := (mkF m 1 #[vR a1, vU, vU] [(.ref a1)])) rfl rfl (hb hby d42_1)
  have q23 := fun t (kt : Go p e below T22 (mkF m 6 #[vR a1, vI 1, vU] [(.ref a1)]) t) => q21 t (st22 t (by
    show Go _ _ _ _ (mkF m 4 #[vR a1, vU, vU] [(.int 1)]) _
    refine XS.istoreN X22.here hx rfl (hb hby d42_4) rfl (l' := #[vR a1, vI 1, vU]) rfl ?_
    show Go _ _ _ _ (mkF m 5 #[vR a1, vI 1, vU] []) _
    refine XS.aloadN X22.here hx rfl (hb hby d42_5) rfl rfl ?_
    exact kt))
  obtain ⟨T24, X24, e24, st24⟩ := getF X22 hx hZ hown (host := "") (Or.inl (ox hw 147 rfl)) Via.refl e22 G1 (g := (mkF m 6 #[vR a1, vI 1, vU] [(.ref a1)])) rfl rfl (hb hby d42_6)
  have q25 := fun t (kt : Go p e below T24 (mkF m 10 #[vR a1, vI 1, vU] [(.int 1), (.ref a2)]) t) => q23 t (st24 t (by
    show Go _ _ _ _ (mkF m 9 #[vR a1, vI 1, vU] [(.ref a2)]) _
    refine XS.iloadN X24.here hx rfl (hb hby d42_9) rfl ?_
    exact kt))
  obtain ⟨cq27, kq27, q27a, q27b, q27c⟩ := isOf hZ e24 G4
  obtain ⟨_, _, ⟨T26, L26, k26, n26⟩, -, X26, ⟨_, hQ26, l26, y26, z26⟩, st26⟩ := X24.interfaceBack hx (xi := ym45) (y := ym43) hown (ow hZ hw 319 rfl) (ow hZ hw 320 rfl) (ow hZ hw 321 rfl) (ow hZ hw 377 rfl) (ow hZ hw 378 rfl) (ow hZ hw 379 rfl) (ow hZ hw 380 rfl) (ow hZ hw 373 rfl) (by decide) (backOf (W := 0) (rm52_21 l Z a0 hw [] cx a2 x1 x2 h0 n0 O0 G4 G5 G6 g_x2) hZ (ox hw 381 rfl) (ox hw 296 rfl) (by decide) (by decide)) q27a q27b q27c (g := (mkF m 10 #[vR a1, vI 1, vU] [(.int 1), (.ref a2)])) rfl (by rw [hml]; rfl) (Steps.refl _) (argsL := [(.int 1)]) (rest := []) (lenOf pd_23 rfl) rfl own_le0 (hb hby d42_10) (fun _ _ => ⟨rfl, e24, (by decide : 0 + 0 ≤ _), (by decide : 0 + 0 ≤ _)⟩)
  dsimp only [Pt.U, Pt.locs, Pt.cells, Pt.slots] at X26 l26 y26 z26 st26 hQ26
  subst l26 y26 z26
  obtain ⟨rfl, Nq26, eq26⟩ := hQ26
  have N28 := Fr.app N0 Nq26
  have q29 := fun t (kt : Go p e below T26 (mkF m 20 #[vR a1, vI 1, vR x2] [(.int 2), (.ref a1)]) t) => q25 t (st26.trans (by
    show Go _ _ _ _ (mkF m 15 #[vR a1, vI 1, vU] [(.ref x2)]) _
    refine XS.astoreN X26.here hx rfl (hb hby d42_15) rfl rfl (l' := #[vR a1, vI 1, vR x2]) rfl ?_
    show Go _ _ _ _ (mkF m 16 #[vR a1, vI 1, vR x2] []) _
    refine XS.aloadN X26.here hx rfl (hb hby d42_16) rfl rfl ?_
    show Go _ _ _ _ (mkF m 17 _ [(.ref a1)]) _
    refine XS.iloadN X26.here hx rfl (hb hby d42_17) rfl ?_
    show Go _ _ _ _ (mkF m 18 _ [(.int 1), (.ref a1)]) _
    refine XS.iconst X26.here hx rfl (hb hby d42_18) ?_
    show Go _ _ _ _ (mkF m 19 _ [(.int 1), (.int 1), (.ref a1)]) _
    refine XS.iadd X26.here hx rfl (hb hby d42_19) rfl ?_
    exact kt))
  obtain ⟨T30, h30, X30, e30, W30, st30⟩ := putF X26 hx hZ hown (host := "") (Or.inl (ox hw 151 rfl)) Via.refl eq26 G3 G0 (Or.inl (ox hw 152 rfl)) (ox hw 131 rfl) (ty := .int) (by decide) rfl rfl (g := (mkF m 20 #[vR a1, vI 1, vR x2] [(.int 2), (.ref a1)])) rfl rfl (hb hby d42_20)
  have f31 : Fld Z h30 a1 sk20 "cursor" "I" (.int 2) := G3.same W30
  have N32 := Fr.snoc X30 N28 g_a1
  have O33 := O0.wr W30 g_a1
  have K34 := K0.wr W30 (Or.inl (List.mem_of_getElem? (i := 0) rfl))
  have q35 := fun t (kt : Go p e below T30 (mkF m 24 #[vR a1, vI 1, vR x2] [(.ref x2)]) t) => q29 t (st30 t (by
    show Go _ _ _ _ (mkF m 23 #[vR a1, vI 1, vR x2] []) _
    refine XS.aloadN X30.here hx rfl (hb hby d42_23) rfl rfl ?_
    exact kt))
  have f36 := (G1.other W30 (Or.inr (slot_ne (Or.inr (ox hw 148 rfl)) (Or.inl (ox hw 152 rfl)) (by decide) (t := (.object sk23)) (t' := .int) (by decide) (by decide))))
  have f37 := (G2.other W30 (Or.inr (slot_ne (Or.inr (ox hw 150 rfl)) (Or.inl (ox hw 152 rfl)) (by decide) (t := .int) (t' := .int) (by decide) (by decide))))
  exact ⟨some (.ref x2), T30, _, _, _, _, X30, by decide, by decide, nofun, q35, fun fs hr => retOut X30 hx hret rfl (o4 ⟨rfl, rfl, rfl⟩) (hb hby d42_24) hr, by rw [e30]; exact ⟨rfl, N32, K34, f36, f37, f31⟩⟩
def Q_rm42_30 (Z : State) (a1 : Addr) (a2 : Addr) (x1 : Addr) (x2 : Addr) (x3 : Addr) (ra : Addr) (kr : ClassId) (cw : Nat → Nat) (z_cs : Int32) (h0 : Heap) (n0 : Nat) (v : Option Value) (h : Heap) (L : List Loc) : Prop := v = some (.ref x1) ∧ Fr n0 L ∧ Keep h0 h [a1] ∧ Fld Z h a1 sk20 "list" sk5 (.ref a2) ∧ Fld Z h a1 sk20 "size" "I" (.int 3) ∧ Fld Z h a1 sk20 "cursor" "I" (.int 1)
theorem rm42_30 (l : Launch) (Z : State) (a0 : Array Value) (hw : ∀ d ∈ tables_1, d.before a0 Z = true) (ws : List Jvm.Cond) {cw : Nat → Nat} {z_cs : Int32} (cx : Cx Z cw z_cs) (a1 : Addr) (a2 : Addr) (x1 : Addr) (x2 : Addr) (x3 : Addr) (ra : Addr) (kr : ClassId) (h0 : Heap) (n0 : Nat) (O0 : Old Z n0 h0) (G0 : Exa Z h0 a1 sk20) (G1 : Fld Z h0 a1 sk20 "list" sk5 (.ref a2)) (G2 : Fld Z h0 a1 sk20 "size" "I" (.int 3)) (G3 : Fld Z h0 a1 sk20 "cursor" "I" (.int 0)) (G4 : Exa Z h0 a2 sk21) (G5 : Fld Z h0 a2 sk21 "elements" sk6 (.ref ra)) (G6 : Arv Z h0 ra kr (.object sk14) (3 : Int32) [(.ref x1), (.ref x2), (.ref x3)] .null) (g_a1 : n0 ≤ a1) :
    OwnMet l ym44 (Jvm.Cond.codeWith ({ cls := sk20, name := "next", desc := sk0 } : Jvm.MethodName) jdk_53_method_4_code (3 : Nat) (Option.some (Jvm.ClassFile.FieldType.object sk14)) [((0 : Nat), (24 : Nat), (25 : Nat), (30 : Nat))] :: ws) (own_R 1 0 0 13) #[(.ref a1)] Z h0 (Q_rm42_30 Z a1 a2 x1 x2 x3 ra kr cw z_cs h0 n0) := by
  refine own_body (plainFor_of_name pn_42) hisWith fun p e s m below meth c s₁ hx hby hml hown hnm hret hZ X0 e0 => ?_
  have N0 := Fr.nil n0
  have K0 : Keep h0 h0 [a1] := Keep.refl _ _
  have pre0 : ∀ t, Go p e below s₁ (mkF m 0 #[vR a1, vU, vU] []) t → Go p e below s₁ (entryFrame m #[(.ref a1)] 3) t := fun t k => castTop (ef_42_R m a1) k
  have q21 := fun t (kt : Go p e below s₁ (mkF m 1 #[vR a1, vU, vU] [(.ref a1)]) t) => pre0 t (by
    show Go _ _ _ _ (mkF m 0 #[vR a1, vU, vU] []) _
    refine XS.aloadN X0.here hx rfl (hb hby d42_0) rfl rfl ?_
    exact kt)
  obtain ⟨T22, X22, e22, st22⟩ := getF X0 hx hZ hown (host := "") (Or.inl (ox hw 151 rfl)) Via.refl e0 G3 (g := (mkF m 1 #[vR a1, vU, vU] [(.ref a1)])) rfl rfl (hb hby d42_1)
  have q23 := fun t (kt : Go p e below T22 (mkF m 6 #[vR a1, vI 0, vU] [(.ref a1)]) t) => q21 t (st22 t (by
    show Go _ _ _ _ (mkF m 4 #[vR a1, vU, vU] [(.int 0)]) _
    refine XS.istoreN X22.here hx rfl (hb hby d42_4) rfl (l' := #[vR a1, vI 0, vU]) rfl ?_
    show Go _ _ _ _ (mkF m 5 #[vR a1, vI 0, vU] []) _
    refine XS.aloadN X22.here hx rfl (hb hby d42_5) rfl rfl ?_
    exact kt))
  obtain ⟨T24, X24, e24, st24⟩ := getF X22 hx hZ hown (host := "") (Or.inl (ox hw 147 rfl)) Via.refl e22 G1 (g := (mkF m 6 #[vR a1, vI 0, vU] [(.ref a1)])) rfl rfl (hb hby d42_6)
  have q25 := fun t (kt : Go p e below T24 (mkF m 10 #[vR a1, vI 0, vU] [(.int 0), (.ref a2)]) t) => q23 t (st24 t (by
    show Go _ _ _ _ (mkF m 9 #[vR a1, vI 0, vU] [(.ref a2)]) _
    refine XS.iloadN X24.here hx rfl (hb hby d42_9) rfl ?_
    exact kt))
  obtain ⟨cq27, kq27, q27a, q27b, q27c⟩ := isOf hZ e24 G4
  obtain ⟨_, _, ⟨T26, L26, k26, n26⟩, -, X26, ⟨_, hQ26, l26, y26, z26⟩, st26⟩ := X24.interfaceBack hx (xi := ym45) (y := ym42) hown (ow hZ hw 319 rfl) (ow hZ hw 320 rfl) (ow hZ hw 321 rfl) (ow hZ hw 322 rfl) (ow hZ hw 323 rfl) (ow hZ hw 324 rfl) (ow hZ hw 325 rfl) (ow hZ hw 127 rfl) (by decide) (backOf (W := 0) (rm43_0 l Z a0 hw [] cx a2 x1 x2 x3 ra kr h0 n0 O0 G4 G5 G6) hZ (ox hw 326 rfl) (ox hw 138 rfl) (by decide) (by decide)) q27a q27b q27c (g := (mkF m 10 #[vR a1, vI 0, vU] [(.int 0), (.ref a2)])) rfl (by rw [hml]; rfl) (Steps.refl _) (argsL := [(.int 0)]) (rest := []) (lenOf pd_23 rfl) rfl own_le0 (hb hby d42_10) (fun _ _ => ⟨rfl, e24, (by decide : 0 + 0 ≤ _), (by decide : 0 + 0 ≤ _)⟩)
  dsimp only [Pt.U, Pt.locs, Pt.cells, Pt.slots] at X26 l26 y26 z26 st26 hQ26
  subst l26 y26 z26
  obtain ⟨rfl, Nq26, eq26⟩ := hQ26
  have N28 := Fr.app N0 Nq26
  have q29 := fun t (kt : Go p e below T26 (mkF m 20 #[vR a1, vI 0, vR x1] [(.int 1), (.ref a1)]) t) => q25 t (st26.trans (by
    show Go _ _ _ _ (mkF m 15 #[vR a1, vI 0, vU] [(.ref x1)]) _
    refine XS.astoreN X26.here hx rfl (hb hby d42_15) rfl rfl (l' := #[vR a1, vI 0, vR x1]) rfl ?_
    show Go _ _ _ _ (mkF m 16 #[vR a1, vI 0, vR x1] []) _
    refine XS.aloadN X26.here hx rfl (hb hby d42_16) rfl rfl ?_
    show Go _ _ _ _ (mkF m 17 _ [(.ref a1)]) _
    refine XS.iloadN X26.here hx rfl (hb hby d42_17) rfl ?_
    show Go _ _ _ _ (mkF m 18 _ [(.int 0), (.ref a1)]) _
    refine XS.iconst X26.here hx rfl (hb hby d42_18) ?_
    show Go _ _ _ _ (mkF m 19 _ [(.int 1), (.int 0), (.ref a1)]) _
    refine XS.iadd X26.here hx rfl (hb hby d42_19) rfl ?_
    exact kt))
  obtain ⟨T30, h30, X30, e30, W30, st30⟩ := putF X26 hx hZ hown (host := "") (Or.inl (ox hw 151 rfl)) Via.refl eq26 G3 G0 (Or.inl (ox hw 152 rfl)) (ox hw 131 rfl) (ty := .int) (by decide) rfl rfl (g := (mkF m 20 #[vR a1, vI 0, vR x1] [(.int 1), (.ref a1)])) rfl rfl (hb hby d42_20)
  have f31 : Fld Z h30 a1 sk20 "cursor" "I" (.int 1) := G3.same W30
  have N32 := Fr.snoc X30 N28 g_a1
  have O33 := O0.wr W30 g_a1
  have K34 := K0.wr W30 (Or.inl (List.mem_of_getElem? (i := 0) rfl))
  have q35 := fun t (kt : Go p e below T30 (mkF m 24 #[vR a1, vI 0, vR x1] [(.ref x1)]) t) => q29 t (st30 t (by
    show Go _ _ _ _ (mkF m 23 #[vR a1, vI 0, vR x1] []) _
    refine XS.aloadN X30.here hx rfl (hb hby d42_23) rfl rfl ?_
    exact kt))
  have f36 := (G1.other W30 (Or.inr (slot_ne (Or.inr (ox hw 148 rfl)) (Or.inl (ox hw 152 rfl)) (by decide) (t := (.object sk23)) (t' := .int) (by decide) (by decide))))
  have f37 := (G2.other W30 (Or.inr (slot_ne (Or.inr (ox hw 150 rfl)) (Or.inl (ox hw 152 rfl)) (by decide) (t := .int) (t' := .int) (by decide) (by decide))))
  exact ⟨some (.ref x1), T30, _, _, _, _, X30, by decide, by decide, nofun, q35, fun fs hr => retOut X30 hx hret rfl (o4 ⟨rfl, rfl, rfl⟩) (hb hby d42_24) hr, by rw [e30]; exact ⟨rfl, N32, K34, f36, f37, f31⟩⟩
def Q_rm42_31 (Z : State) (a1 : Addr) (a2 : Addr) (x1 : Addr) (x2 : Addr) (x3 : Addr) (ra : Addr) (kr : ClassId) (cw : Nat → Nat) (z_cs : Int32) (h0 : Heap) (n0 : Nat) (v : Option Value) (h : Heap) (L : List Loc) : Prop := v = some (.ref x2) ∧ Fr n0 L ∧ Keep h0 h [a1] ∧ Fld Z h a1 sk20 "list" sk5 (.ref a2) ∧ Fld Z h a1 sk20 "size" "I" (.int 3) ∧ Fld Z h a1 sk20 "cursor" "I" (.int 2)
theorem rm42_31 (l : Launch) (Z : State) (a0 : Array Value) (hw : ∀ d ∈ tables_1, d.before a0 Z = true) (ws : List Jvm.Cond) {cw : Nat → Nat} {z_cs : Int32} (cx : Cx Z cw z_cs) (a1 : Addr) (a2 : Addr) (x1 : Addr) (x2 : Addr) (x3 : Addr) (ra : Addr) (kr : ClassId) (h0 : Heap) (n0 : Nat) (O0 : Old Z n0 h0) (G0 : Exa Z h0 a1 sk20) (G1 : Fld Z h0 a1 sk20 "list" sk5 (.ref a2)) (G2 : Fld Z h0 a1 sk20 "size" "I" (.int 3)) (G3 : Fld Z h0 a1 sk20 "cursor" "I" (.int 1)) (G4 : Exa Z h0 a2 sk21) (G5 : Fld Z h0 a2 sk21 "elements" sk6 (.ref ra)) (G6 : Arv Z h0 ra kr (.object sk14) (3 : Int32) [(.ref x1), (.ref x2), (.ref x3)] .null) (g_a1 : n0 ≤ a1) :
    OwnMet l ym44 (Jvm.Cond.codeWith ({ cls := sk20, name := "next", desc := sk0 } : Jvm.MethodName) jdk_53_method_4_code (3 : Nat) (Option.some (Jvm.ClassFile.FieldType.object sk14)) [((0 : Nat), (24 : Nat), (25 : Nat), (30 : Nat))] :: ws) (own_R 1 0 0 13) #[(.ref a1)] Z h0 (Q_rm42_31 Z a1 a2 x1 x2 x3 ra kr cw z_cs h0 n0) := by
  refine own_body (plainFor_of_name pn_42) hisWith fun p e s m below meth c s₁ hx hby hml hown hnm hret hZ X0 e0 => ?_
  have N0 := Fr.nil n0
  have K0 : Keep h0 h0 [a1] := Keep.refl _ _
  have pre0 : ∀ t, Go p e below s₁ (mkF m 0 #[vR a1, vU, vU] []) t → Go p e below s₁ (entryFrame m #[(.ref a1)] 3) t := fun t k => castTop (ef_42_R m a1) k
  have q21 := fun t (kt : Go p e below s₁ (mkF m 1 #[vR a1, vU, vU] [(.ref a1)]) t) => pre0 t (by
    show Go _ _ _ _ (mkF m 0 #[vR a1, vU, vU] []) _
    refine XS.aloadN X0.here hx rfl (hb hby d42_0) rfl rfl ?_
    exact kt)
  obtain ⟨T22, X22, e22, st22⟩ := getF X0 hx hZ hown (host := "") (Or.inl (ox hw 151 rfl)) Via.refl e0 G3 (g := (mkF m 1 #[vR a1, vU, vU] [(.ref a1)])) rfl rfl (hb hby d42_1)
  have q23 := fun t (kt : Go p e below T22 (mkF m 6 #[vR a1, vI 1, vU] [(.ref a1)]) t) => q21 t (st22 t (by
    show Go _ _ _ _ (mkF m 4 #[vR a1, vU, vU] [(.int 1)]) _
    refine XS.istoreN X22.here hx rfl (hb hby d42_4) rfl (l' := #[vR a1, vI 1, vU]) rfl ?_
    show Go _ _ _ _ (mkF m 5 #[vR a1, vI 1, vU] []) _
    refine XS.aloadN X22.here hx rfl (hb hby d42_5) rfl rfl ?_
    exact kt))
  obtain ⟨T24, X24, e24, st24⟩ := getF X22 hx hZ hown (host := "") (Or.inl (ox hw 147 rfl)) Via.refl e22 G1 (g := (mkF m 6 #[vR a1, vI 1, vU] [(.ref a1)])) rfl rfl (hb hby d42_6)
  have q25 := fun t (kt : Go p e below T24 (mkF m 10 #[vR a1, vI 1, vU] [(.int 1), (.ref a2)]) t) => q23 t (st24 t (by
    show Go _ _ _ _ (mkF m 9 #[vR a1, vI 1, vU] [(.ref a2)]) _
    refine XS.iloadN X24.here hx rfl (hb hby d42_9) rfl ?_
    exact kt))
  obtain ⟨cq27, kq27, q27a, q27b, q27c⟩ := isOf hZ e24 G4
  obtain ⟨_, _, ⟨T26, L26, k26, n26⟩, -, X26, ⟨_, hQ26, l26, y26, z26⟩, st26⟩ := X24.interfaceBack hx (xi := ym45) (y := ym42) hown (ow hZ hw 319 rfl) (ow hZ hw 320 rfl) (ow hZ hw 321 rfl) (ow hZ hw 322 rfl) (ow hZ hw 323 rfl) (ow hZ hw 324 rfl) (ow hZ hw 325 rfl) (ow hZ hw 127 rfl) (by decide) (backOf (W := 0) (rm43_1 l Z a0 hw [] cx a2 x1 x2 x3 ra kr h0 n0 O0 G4 G5 G6) hZ (ox hw 326 rfl) (ox hw 138 rfl) (by decide) (by decide)) q27a q27b q27c (g := (mkF m 10 #[vR a1, vI 1, vU] [(.int 1), (.ref a2)])) rfl (by rw [hml]; rfl) (Steps.refl _) (argsL := [(.int 1)]) (rest := []) (lenOf pd_23 rfl) rfl own_le0 (hb hby d42_10) (fun _ _ => ⟨rfl, e24, (by decide : 0 + 0 ≤ _), (by decide : 0 + 0 ≤ _)⟩)
  dsimp only [Pt.U, Pt.locs, Pt.cells, Pt.slots] at X26 l26 y26 z26 st26 hQ26
  subst l26 y26 z26
  obtain ⟨rfl, Nq26, eq26⟩ := hQ26
  have N28 := Fr.app N0 Nq26
  have q29 := fun t (kt : Go p e below T26 (mkF m 20 #[vR a1, vI 1, vR x2] [(.int 2), (.ref a1)]) t) => q25 t (st26.trans (by
    show Go _ _ _ _ (mkF m 15 #[vR a1, vI 1, vU] [(.ref x2)]) _
    refine XS.astoreN X26.here hx rfl (hb hby d42_15) rfl rfl (l' := #[vR a1, vI 1, vR x2]) rfl ?_
    show Go _ _ _ _ (mkF m 16 #[vR a1, vI 1, vR x2] []) _
    refine XS.aloadN X26.here hx rfl (hb hby d42_16) rfl rfl ?_
    show Go _ _ _ _ (mkF m 17 _ [(.ref a1)]) _
    refine XS.iloadN X26.here hx rfl (hb hby d42_17) rfl ?_
    show Go _ _ _ _ (mkF m 18 _ [(.int 1), (.ref a1)]) _
    refine XS.iconst X26.here hx rfl (hb hby d42_18) ?_
    show Go _ _ _ _ (mkF m 19 _ [(.int 1), (.int 1), (.ref a1)]) _
    refine XS.iadd X26.here hx rfl (hb hby d42_19) rfl ?_
    exact kt))
  obtain ⟨T30, h30, X30, e30, W30, st30⟩ := putF X26 hx hZ hown (host := "") (Or.inl (ox hw 151 rfl)) Via.refl eq26 G3 G0 (Or.inl (ox hw 152 rfl)) (ox hw 131 rfl) (ty := .int) (by decide) rfl rfl (g := (mkF m 20 #[vR a1, vI 1, vR x2] [(.int 2), (.ref a1)])) rfl rfl (hb hby d42_20)
  have f31 : Fld Z h30 a1 sk20 "cursor" "I" (.int 2) := G3.same W30
  have N32 := Fr.snoc X30 N28 g_a1
  have O33 := O0.wr W30 g_a1
  have K34 := K0.wr W30 (Or.inl (List.mem_of_getElem? (i := 0) rfl))
  have q35 := fun t (kt : Go p e below T30 (mkF m 24 #[vR a1, vI 1, vR x2] [(.ref x2)]) t) => q29 t (st30 t (by
    show Go _ _ _ _ (mkF m 23 #[vR a1, vI 1, vR x2] []) _
    refine XS.aloadN X30.here hx rfl (hb hby d42_23) rfl rfl ?_
    exact kt))
  have f36 := (G1.other W30 (Or.inr (slot_ne (Or.inr (ox hw 148 rfl)) (Or.inl (ox hw 152 rfl)) (by decide) (t := (.object sk23)) (t' := .int) (by decide) (by decide))))
  have f37 := (G2.other W30 (Or.inr (slot_ne (Or.inr (ox hw 150 rfl)) (Or.inl (ox hw 152 rfl)) (by decide) (t := .int) (t' := .int) (by decide) (by decide))))
  exact ⟨some (.ref x2), T30, _, _, _, _, X30, by decide, by decide, nofun, q35, fun fs hr => retOut X30 hx hret rfl (o4 ⟨rfl, rfl, rfl⟩) (hb hby d42_24) hr, by rw [e30]; exact ⟨rfl, N32, K34, f36, f37, f31⟩⟩
def Q_rm42_32 (Z : State) (a1 : Addr) (a2 : Addr) (x1 : Addr) (x2 : Addr) (x3 : Addr) (ra : Addr) (kr : ClassId) (cw : Nat → Nat) (z_cs : Int32) (h0 : Heap) (n0 : Nat) (v : Option Value) (h : Heap) (L : List Loc) : Prop := v = some (.ref x3) ∧ Fr n0 L ∧ Keep h0 h [a1] ∧ Fld Z h a1 sk20 "list" sk5 (.ref a2) ∧ Fld Z h a1 sk20 "size" "I" (.int 3) ∧ Fld Z h a1 sk20 "cursor" "I" (.int 3)
theorem rm42_32 (l : Launch) (Z : State) (a0 : Array Value) (hw : ∀ d ∈ tables_1, d.before a0 Z = true) (ws : List Jvm.Cond) {cw : Nat → Nat} {z_cs : Int32} (cx : Cx Z cw z_cs) (a1 : Addr) (a2 : Addr) (x1 : Addr) (x2 : Addr) (x3 : Addr) (ra : Addr) (kr : ClassId) (h0 : Heap) (n0 : Nat) (O0 : Old Z n0 h0) (G0 : Exa Z h0 a1 sk20) (G1 : Fld Z h0 a1 sk20 "list" sk5 (.ref a2)) (G2 : Fld Z h0 a1 sk20 "size" "I" (.int 3)) (G3 : Fld Z h0 a1 sk20 "cursor" "I" (.int 2)) (G4 : Exa Z h0 a2 sk21) (G5 : Fld Z h0 a2 sk21 "elements" sk6 (.ref ra)) (G6 : Arv Z h0 ra kr (.object sk14) (3 : Int32) [(.ref x1), (.ref x2), (.ref x3)] .null) (g_a1 : n0 ≤ a1) :
    OwnMet l ym44 (Jvm.Cond.codeWith ({ cls := sk20, name := "next", desc := sk0 } : Jvm.MethodName) jdk_53_method_4_code (3 : Nat) (Option.some (Jvm.ClassFile.FieldType.object sk14)) [((0 : Nat), (24 : Nat), (25 : Nat), (30 : Nat))] :: ws) (own_R 1 0 0 13) #[(.ref a1)] Z h0 (Q_rm42_32 Z a1 a2 x1 x2 x3 ra kr cw z_cs h0 n0) := by
  refine own_body (plainFor_of_name pn_42) hisWith fun p e s m below meth c s₁ hx hby hml hown hnm hret hZ X0 e0 => ?_
  have N0 := Fr.nil n0
  have K0 : Keep h0 h0 [a1] := Keep.refl _ _
  have pre0 : ∀ t, Go p e below s₁ (mkF m 0 #[vR a1, vU, vU] []) t → Go p e below s₁ (entryFrame m #[(.ref a1)] 3) t := fun t k => castTop (ef_42_R m a1) k
  have q21 := fun t (kt : Go p e below s₁ (mkF m 1 #[vR a1, vU, vU] [(.ref a1)]) t) => pre0 t (by
    show Go _ _ _ _ (mkF m 0 #[vR a1, vU, vU] []) _
    refine XS.aloadN X0.here hx rfl (hb hby d42_0) rfl rfl ?_
    exact kt)
  obtain ⟨T22, X22, e22, st22⟩ := getF X0 hx hZ hown (host := "") (Or.inl (ox hw 151 rfl)) Via.refl e0 G3 (g := (mkF m 1 #[vR a1, vU, vU] [(.ref a1)])) rfl rfl (hb hby d42_1)
  have q23 := fun t (kt : Go p e below T22 (mkF m 6 #[vR a1, vI 2, vU] [(.ref a1)]) t) => q21 t (st22 t (by
    show Go _ _ _ _ (mkF m 4 #[vR a1, vU, vU] [(.int 2)]) _
    refine XS.istoreN X22.here hx rfl (hb hby d42_4) rfl (l' := #[vR a1, vI 2, vU]) rfl ?_
    show Go _ _ _ _ (mkF m 5 #[vR a1, vI 2, vU] []) _
    refine XS.aloadN X22.here hx rfl (hb hby d42_5) rfl rfl ?_
    exact kt))
  obtain ⟨T24, X24, e24, st24⟩ := getF X22 hx hZ hown (host := "") (Or.inl (ox hw 147 rfl)) Via.refl e22 G1 (g := (mkF m 6 #[vR a1, vI 2, vU] [(.ref a1)])) rfl rfl (hb hby d42_6)
  have q25 := fun t (kt : Go p e below T24 (mkF m 10 #[vR a1, vI 2, vU] [(.int 2), (.ref a2)]) t) => q23 t (st24 t (by
    show Go _ _ _ _ (mkF m 9 #[vR a1, vI 2, vU] [(.ref a2)]) _
    refine XS.iloadN X24.here hx rfl (hb hby d42_9) rfl ?_
    exact kt))
  obtain ⟨cq27, kq27, q27a, q27b, q27c⟩ := isOf hZ e24 G4
  obtain ⟨_, _, ⟨T26, L26, k26, n26⟩, -, X26, ⟨_, hQ26, l26, y26, z26⟩, st26⟩ := X24.interfaceBack hx (xi := ym45) (y := ym42) hown (ow hZ hw 319 rfl) (ow hZ hw 320 rfl) (ow hZ hw 321 rfl) (ow hZ hw 322 rfl) (ow hZ hw 323 rfl) (ow hZ hw 324 rfl) (ow hZ hw 325 rfl) (ow hZ hw 127 rfl) (by decide) (backOf (W := 0) (rm43_2 l Z a0 hw [] cx a2 x1 x2 x3 ra kr h0 n0 O0 G4 G5 G6) hZ (ox hw 326 rfl) (ox hw 138 rfl) (by decide) (by decide)) q27a q27b q27c (g := (mkF m 10 #[vR a1, vI 2, vU] [(.int 2), (.ref a2)])) rfl (by rw [hml]; rfl) (Steps.refl _) (argsL := [(.int 2)]) (rest := []) (lenOf pd_23 rfl) rfl own_le0 (hb hby d42_10) (fun _ _ => ⟨rfl, e24, (by decide : 0 + 0 ≤ _), (by decide : 0 + 0 ≤ _)⟩)
  dsimp only [Pt.U, Pt.locs, Pt.cells, Pt.slots] at X26 l26 y26 z26 st26 hQ26
  subst l26 y26 z26
  obtain ⟨rfl, Nq26, eq26⟩ := hQ26
  have N28 := Fr.app N0 Nq26
  have q29 := fun t (kt : Go p e below T26 (mkF m 20 #[vR a1, vI 2, vR x3] [(.int 3), (.ref a1)]) t) => q25 t (st26.trans (by
    show Go _ _ _ _ (mkF m 15 #[vR a1, vI 2, vU] [(.ref x3)]) _
    refine XS.astoreN X26.here hx rfl (hb hby d42_15) rfl rfl (l' := #[vR a1, vI 2, vR x3]) rfl ?_
    show Go _ _ _ _ (mkF m 16 #[vR a1, vI 2, vR x3] []) _
    refine XS.aloadN X26.here hx rfl (hb hby d42_16) rfl rfl ?_
    show Go _ _ _ _ (mkF m 17 _ [(.ref a1)]) _
    refine XS.iloadN X26.here hx rfl (hb hby d42_17) rfl ?_
    show Go _ _ _ _ (mkF m 18 _ [(.int 2), (.ref a1)]) _
    refine XS.iconst X26.here hx rfl (hb hby d42_18) ?_
    show Go _ _ _ _ (mkF m 19 _ [(.int 1), (.int 2), (.ref a1)]) _
    refine XS.iadd X26.here hx rfl (hb hby d42_19) rfl ?_
    exact kt))
  obtain ⟨T30, h30, X30, e30, W30, st30⟩ := putF X26 hx hZ hown (host := "") (Or.inl (ox hw 151 rfl)) Via.refl eq26 G3 G0 (Or.inl (ox hw 152 rfl)) (ox hw 131 rfl) (ty := .int) (by decide) rfl rfl (g := (mkF m 20 #[vR a1, vI 2, vR x3] [(.int 3), (.ref a1)])) rfl rfl (hb hby d42_20)
  have f31 : Fld Z h30 a1 sk20 "cursor" "I" (.int 3) := G3.same W30
  have N32 := Fr.snoc X30 N28 g_a1
  have O33 := O0.wr W30 g_a1
  have K34 := K0.wr W30 (Or.inl (List.mem_of_getElem? (i := 0) rfl))
  have q35 := fun t (kt : Go p e below T30 (mkF m 24 #[vR a1, vI 2, vR x3] [(.ref x3)]) t) => q29 t (st30 t (by
    show Go _ _ _ _ (mkF m 23 #[vR a1, vI 2, vR x3] []) _
    refine XS.aloadN X30.here hx rfl (hb hby d42_23) rfl rfl ?_
    exact kt))
  have f36 := (G1.other W30 (Or.inr (slot_ne (Or.inr (ox hw 148 rfl)) (Or.inl (ox hw 152 rfl)) (by decide) (t := (.object sk23)) (t' := .int) (by decide) (by decide))))
  have f37 := (G2.other W30 (Or.inr (slot_ne (Or.inr (ox hw 150 rfl)) (Or.inl (ox hw 152 rfl)) (by decide) (t := .int) (t' := .int) (by decide) (by decide))))
  exact ⟨some (.ref x3), T30, _, _, _, _, X30, by decide, by decide, nofun, q35, fun fs hr => retOut X30 hx hret rfl (o4 ⟨rfl, rfl, rfl⟩) (hb hby d42_24) hr, by rw [e30]; exact ⟨rfl, N32, K34, f36, f37, f31⟩⟩
theorem ef_44_R (m : MethodId) (x0 : Addr) : entryFrame m #[(.ref x0)] 1 = mkF m 0 #[.val (.ref x0)] [] := by first | (simp [entryFrame, mkF, argsToLocals, Value.category]; done) | rfl
theorem pn_44 : plainName "com/example/sherman/sherman/service/Verification$Outcome" = true := by first | (simp [plainName, overriddenIn]; done) | decide +kernel
theorem d44_0 : decode prog_14_method_6_code 0 = .ok (.aload_n 0, 1) := by decide +kernel
theorem d44_1 : decode prog_14_method_6_code 1 = .ok (.getfield 13, 3) := by decide +kernel
theorem d44_4 : decode prog_14_method_6_code 4 = .ok (.areturn, 1) := by decide +kernel
def Q_rm44 (Z : State) (a1 : Addr) (y : Addr) (cw : Nat → Nat) (z_cs : Int32) (h0 : Heap) (n0 : Nat) (v : Option Value) (h : Heap) (L : List Loc) : Prop := v = some (.ref y) ∧ Fr n0 L ∧ h = h0
theorem rm44 (l : Launch) (Z : State) (a0 : Array Value) (hw : ∀ d ∈ tables_1, d.before a0 Z = true) (ws : List Jvm.Cond) {cw : Nat → Nat} {z_cs : Int32} (cx : Cx Z cw z_cs) (a1 : Addr) (y : Addr) (h0 : Heap) (n0 : Nat) (O0 : Old Z n0 h0) (G0 : Fld Z h0 a1 sk9 "status" sk2 (.ref y)) :
    OwnMet l ym46 (Jvm.Cond.code ym46 prog_14_method_6_code 1 (some (.object sk10)) :: ws) (own_R 0 0 0 0) #[(.ref a1)] Z h0 (Q_rm44 Z a1 y cw z_cs h0 n0) := by
  refine own_body (plainFor_of_name pn_44) hisR fun p e s m below meth c s₁ hx hby hml hown hnm hret hZ X0 e0 => ?_
  have N0 := Fr.nil n0
  have pre0 : ∀ t, Go p e below s₁ (mkF m 0 #[vR a1] []) t → Go p e below s₁ (entryFrame m #[(.ref a1)] 1) t := fun t k => castTop (ef_44_R m a1) k
  have q21 := fun t (kt : Go p e below s₁ (mkF m 1 #[vR a1] [(.ref a1)]) t) => pre0 t (by
    show Go _ _ _ _ (mkF m 0 #[vR a1] []) _
    refine XS.aloadN X0.here hx rfl (hb hby d44_0) rfl rfl ?_
    exact kt)
  obtain ⟨T22, X22, e22, st22⟩ := getF X0 hx hZ hown (host := "") (Or.inl (ox hw 43 rfl)) Via.refl e0 G0 (g := (mkF m 1 #[vR a1] [(.ref a1)])) rfl rfl (hb hby d44_1)
  have q23 := fun t (kt : Go p e below T22 (mkF m 4 #[vR a1] [(.ref y)]) t) => q21 t (st22 t kt)
  exact ⟨some (.ref y), T22, _, _, _, _, X22, by decide, by decide, nofun, q23, fun fs hr => retOut X22 hx hret rfl (o4 ⟨rfl, rfl, rfl⟩) (hb hby d44_4) hr, by rw [e22]; exact ⟨rfl, N0, rfl⟩⟩
theorem ef_45_R (m : MethodId) (x0 : Addr) : entryFrame m #[(.ref x0)] 1 = mkF m 0 #[.val (.ref x0)] [] := by first | (simp [entryFrame, mkF, argsToLocals, Value.category]; done) | rfl
theorem pn_45 : plainName "com/example/sherman/sherman/service/Verification$Outcome" = true := by first | (simp [plainName, overriddenIn]; done) | decide +kernel
theorem d45_0 : decode prog_14_method_5_code 0 = .ok (.aload_n 0, 1) := by decide +kernel
theorem d45_1 : decode prog_14_method_5_code 1 = .ok (.getfield 7, 3) := by decide +kernel
theorem d45_4 : decode prog_14_method_5_code 4 = .ok (.areturn, 1) := by decide +kernel
def Q_rm45 (Z : State) (a1 : Addr) (y : Addr) (cw : Nat → Nat) (z_cs : Int32) (h0 : Heap) (n0 : Nat) (v : Option Value) (h : Heap) (L : List Loc) : Prop := v = some (.ref y) ∧ Fr n0 L ∧ h = h0
theorem rm45 (l : Launch) (Z : State) (a0 : Array Value) (hw : ∀ d ∈ tables_1, d.before a0 Z = true) (ws : List Jvm.Cond) {cw : Nat → Nat} {z_cs : Int32} (cx : Cx Z cw z_cs) (a1 : Addr) (y : Addr) (h0 : Heap) (n0 : Nat) (O0 : Old Z n0 h0) (G0 : Fld Z h0 a1 sk9 "step" sk1 (.ref y)) :
    OwnMet l ym47 (Jvm.Cond.code ym47 prog_14_method_5_code 1 (some (.object sk7)) :: ws) (own_R 0 0 0 0) #[(.ref a1)] Z h0 (Q_rm45 Z a1 y cw z_cs h0 n0) := by
  refine own_body (plainFor_of_name pn_45) hisR fun p e s m below meth c s₁ hx hby hml hown hnm hret hZ X0 e0 => ?_
  have N0 := Fr.nil n0
  have pre0 : ∀ t, Go p e below s₁ (mkF m 0 #[vR a1] []) t → Go p e below s₁ (entryFrame m #[(.ref a1)] 1) t := fun t k => castTop (ef_45_R m a1) k
  have q21 := fun t (kt : Go p e below s₁ (mkF m 1 #[vR a1] [(.ref a1)]) t) => pre0 t (by
    show Go _ _ _ _ (mkF m 0 #[vR a1] []) _
    refine XS.aloadN X0.here hx rfl (hb hby d45_0) rfl rfl ?_
    exact kt)
  obtain ⟨T22, X22, e22, st22⟩ := getF X0 hx hZ hown (host := "") (Or.inl (ox hw 41 rfl)) Via.refl e0 G0 (g := (mkF m 1 #[vR a1] [(.ref a1)])) rfl rfl (hb hby d45_1)
  have q23 := fun t (kt : Go p e below T22 (mkF m 4 #[vR a1] [(.ref y)]) t) => q21 t (st22 t kt)
  exact ⟨some (.ref y), T22, _, _, _, _, X22, by decide, by decide, nofun, q23, fun fs hr => retOut X22 hx hret rfl (o4 ⟨rfl, rfl, rfl⟩) (hb hby d45_4) hr, by rw [e22]; exact ⟨rfl, N0, rfl⟩⟩
theorem ef_47_RR (m : MethodId) (x0 : Addr) (x1 : Addr) : entryFrame m #[(.ref x0), (.ref x1)] 2 = mkF m 0 #[.val (.ref x0), .val (.ref x1)] [] := by first | (simp [entryFrame, mkF, argsToLocals, Value.category]; done) | rfl
theorem pn_47 : plainName "java/util/Optional" = true := by first | (simp [plainName, overriddenIn]; done) | decide +kernel
theorem d47_0 : decode jdk_32_method_2_code 0 = .ok (.aload_n 0, 1) := by decide +kernel
theorem d47_1 : decode jdk_32_method_2_code 1 = .ok (.invokespecial 7, 3) := by decide +kernel
theorem d47_4 : decode jdk_32_method_2_code 4 = .ok (.aload_n 0, 1) := by decide +kernel
theorem d47_5 : decode jdk_32_method_2_code 5 = .ok (.aload_n 1, 1) := by decide +kernel
theorem d47_6 : decode jdk_32_method_2_code 6 = .ok (.putfield 13, 3) := by decide +kernel
theorem d47_9 : decode jdk_32_method_2_code 9 = .ok (.return_, 1) := by decide +kernel
def Q_rm47 (Z : State) (a1 : Addr) (a2 : Addr) (cw : Nat → Nat) (z_cs : Int32) (h0 : Heap) (n0 : Nat) (v : Option Value) (h : Heap) (L : List Loc) : Prop := v = none ∧ Fr n0 L ∧ Keep h0 h [a1] ∧ Fld Z h a1 sk24 "value" sk3 (.ref a2)
theorem rm47 (l : Launch) (Z : State) (a0 : Array Value) (hw : ∀ d ∈ tables_1, d.before a0 Z = true) (ws : List Jvm.Cond) {cw : Nat → Nat} {z_cs : Int32} (cx : Cx Z cw z_cs) (a1 : Addr) (a2 : Addr) (h0 : Heap) (n0 : Nat) (O0 : Old Z n0 h0) (G0 : Exa Z h0 a1 sk24) (G1 : Fld Z h0 a1 sk24 "value" sk3 .null) (g_a1 : n0 ≤ a1) :
    OwnMet l ym48 (Jvm.Cond.code ym48 jdk_32_method_2_code 2 none :: ws) (own_R 1 0 0 12) #[(.ref a1), (.ref a2)] Z h0 (Q_rm47 Z a1 a2 cw z_cs h0 n0) := by
  refine own_body (plainFor_of_name pn_47) hisR fun p e s m below meth c s₁ hx hby hml hown hnm hret hZ X0 e0 => ?_
  have N0 := Fr.nil n0
  have K0 : Keep h0 h0 [a1] := Keep.refl _ _
  have pre0 : ∀ t, Go p e below s₁ (mkF m 0 #[vR a1, vR a2] []) t → Go p e below s₁ (entryFrame m #[(.ref a1), (.ref a2)] 2) t := fun t k => castTop (ef_47_RR m a1 a2) k
  have q21 := fun t (kt : Go p e below s₁ (mkF m 1 #[vR a1, vR a2] [(.ref a1)]) t) => pre0 t (by
    show Go _ _ _ _ (mkF m 0 #[vR a1, vR a2] []) _
    refine XS.aloadN X0.here hx rfl (hb hby d47_0) rfl rfl ?_
    exact kt)
  obtain ⟨T22, X22, e22, st22⟩ := initO X0 hx hZ hown (ox hw 357 rfl) (ox hw 39 rfl) (ox hw 40 rfl) e0 (g := (mkF m 1 #[vR a1, vR a2] [(.ref a1)])) rfl (by rw [hml]; rfl) rfl (hb hby d47_1) (by decide) (W := 0) own_le0 (by decide)
  have q23 := fun t (kt : Go p e below T22 (mkF m 6 #[vR a1, vR a2] [(.ref a2), (.ref a1)]) t) => q21 t (st22 t (by
    show Go _ _ _ _ (mkF m 4 #[vR a1, vR a2] []) _
    refine XS.aloadN X22.here hx rfl (hb hby d47_4) rfl rfl ?_
    show Go _ _ _ _ (mkF m 5 _ [(.ref a1)]) _
    refine XS.aloadN X22.here hx rfl (hb hby d47_5) rfl rfl ?_
    exact kt))
  obtain ⟨T24, h24, X24, e24, W24, st24⟩ := putF X22 hx hZ hown (host := "") (Or.inl (ox hw 174 rfl)) Via.refl e22 G1 G0 (Or.inr ⟨(ox hw 175 rfl), rfl, hnm⟩) (ox hw 351 rfl) (ty := (.object sk14)) (by decide) rfl rfl (g := (mkF m 6 #[vR a1, vR a2] [(.ref a2), (.ref a1)])) rfl rfl (hb hby d47_6)
  have f25 : Fld Z h24 a1 sk24 "value" sk3 (.ref a2) := G1.same W24
  have N26 := Fr.snoc X24 N0 g_a1
  have O27 := O0.wr W24 g_a1
  have K28 := K0.wr W24 (Or.inl (List.mem_of_getElem? (i := 0) rfl))
  have q29 := fun t (kt : Go p e below T24 (mkF m 9 #[vR a1, vR a2] []) t) => q23 t (st24 t kt)
  exact ⟨none, T24, _, _, _, _, X24, by decide, by decide, fun _ => rfl, q29, fun fs hr => X24.returnOut hx hret (hb hby d47_9) hr, by rw [e24]; exact ⟨rfl, N26, K28, f25⟩⟩
theorem ef_46_R (m : MethodId) (x0 : Addr) : entryFrame m #[(.ref x0)] 1 = mkF m 0 #[.val (.ref x0)] [] := by first | (simp [entryFrame, mkF, argsToLocals, Value.category]; done) | rfl
theorem pn_46 : plainName "java/util/Optional" = true := by first | (simp [plainName, overriddenIn]; done) | decide +kernel
theorem d46_0 : decode jdk_32_method_3_code 0 = .ok (.new 2, 3) := by decide +kernel
theorem d46_3 : decode jdk_32_method_3_code 3 = .ok (.dup, 1) := by decide +kernel
theorem d46_4 : decode jdk_32_method_3_code 4 = .ok (.aload_n 0, 1) := by decide +kernel
theorem d46_5 : decode jdk_32_method_3_code 5 = .ok (.invokestatic 17, 3) := by decide +kernel
theorem d46_8 : decode jdk_32_method_3_code 8 = .ok (.invokespecial 23, 3) := by decide +kernel
theorem d46_11 : decode jdk_32_method_3_code 11 = .ok (.areturn, 1) := by decide +kernel
def Q_rm46 (Z : State) (a1 : Addr) (cw : Nat → Nat) (z_cs : Int32) (h0 : Heap) (n0 : Nat) (v : Option Value) (h : Heap) (L : List Loc) : Prop := ∃ (b : Addr), v = some (.ref b) ∧ Fr n0 L ∧ Keep h0 h [] ∧ h0.size ≤ b ∧ Exa Z h b sk24 ∧ Fld Z h b sk24 "value" sk3 (.ref a1)
theorem rm46 (l : Launch) (Z : State) (a0 : Array Value) (hw : ∀ d ∈ tables_1, d.before a0 Z = true) (ws : List Jvm.Cond) {cw : Nat → Nat} {z_cs : Int32} (cx : Cx Z cw z_cs) (a1 : Addr) (h0 : Heap) (n0 : Nat) (O0 : Old Z n0 h0) :
    OwnMet l ym49 (Jvm.Cond.code ym49 jdk_32_method_3_code 1 (some (.object sk24)) :: ws) (own_R 2 1 1 26) #[(.ref a1)] Z h0 (Q_rm46 Z a1 cw z_cs h0 n0) := by
  refine own_body (plainFor_of_name pn_46) hisR fun p e s m below meth c s₁ hx hby hml hown hnm hret hZ X0 e0 => ?_
  have N0 := Fr.nil n0
  have K0 : Keep h0 h0 [] := Keep.refl _ _
  have pre0 : ∀ t, Go p e below s₁ (mkF m 0 #[vR a1] []) t → Go p e below s₁ (entryFrame m #[(.ref a1)] 1) t := fun t k => castTop (ef_46_R m a1) k
  obtain ⟨T21, h21, X21, e21, E21, A21, D21, U21, st21⟩ := newO X0 hx hZ hown (ox hw 350 rfl) (ox hw 351 rfl) (ox hw 166 rfl) e0 (g := (mkF m 0 #[vR a1] [])) rfl (hb hby d46_0) (by decide) (by decide)
  obtain ⟨b21, g21⟩ : ∃ z, z = h0.size := ⟨_, rfl⟩
  rw [← g21] at A21 D21 st21
  have gg22 : n0 ≤ b21 := Nat.le_trans (O0.1 ▸ O0.2.1) (Nat.le_of_eq g21.symm)
  have sz23 : h0.size ≤ b21 := Nat.le_trans K0.1 (Nat.le_of_eq g21.symm)
  have O24 := O0.ext E21
  have K25 := K0.ext E21
  have F21_value : Fld Z h21 b21 sk24 "value" sk3 .null := D21 (Or.inr (ox hw 175 rfl)) (ty := (.object sk14)) (by decide)
  have q26 := fun t (kt : Go p e below T21 (mkF m 5 #[vR a1] [(.ref a1), (.ref b21), (.ref b21)]) t) => pre0 t (st21 t (by
    show Go _ _ _ _ (mkF m 3 #[vR a1] [(.ref b21)]) _
    refine XS.dup X21.here hx rfl (hb hby d46_3) rfl rfl ?_
    show Go _ _ _ _ (mkF m 4 _ [(.ref b21), (.ref b21)]) _
    refine XS.aloadN X21.here hx rfl (hb hby d46_4) rfl rfl ?_
    exact kt))
  obtain ⟨_, _, ⟨T27, L27, k27, n27⟩, -, X27, ⟨_, hQ27, l27, y27, z27⟩, st27⟩ := Jvm.LawKit.callS X21 hx (y := ym19) hown (ow hZ hw 352 rfl) (ow hZ hw 271 rfl) (ow hZ hw 272 rfl) (ow hZ hw 273 rfl) (by decide) (backOf (W := 2) (rm37 l Z a0 hw [] cx a1 h21 n0 O24 ) hZ (ox hw 273 rfl) (ox hw 272 rfl) (by decide) (by decide)) (g := (mkF m 5 #[vR a1] [(.ref a1), (.ref b21), (.ref b21)])) rfl (by rw [hml]; rfl) (argsL := [(.ref a1)]) (rest := [(.ref b21), (.ref b21)]) (lenOf pd_11 rfl) rfl own_le0 (hb hby d46_5) (fun _ _ => ⟨rfl, e21, (by decide : 1 + 0 ≤ _), (by decide : 1 + 0 ≤ _)⟩)
  dsimp only [Pt.U, Pt.locs, Pt.cells, Pt.slots] at X27 l27 y27 z27 st27 hQ27
  subst l27 y27 z27
  obtain ⟨rfl, Nq27, eq27⟩ := hQ27
  have N28 := Fr.app N0 Nq27
  obtain ⟨_, _, ⟨T29, L29, k29, n29⟩, -, X29, ⟨_, hQ29, l29, y29, z29⟩, st29⟩ := X27.specialBack hx (y := ym48) rfl hown (ow hZ hw 353 rfl) (ow hZ hw 354 rfl) (ow hZ hw 356 rfl) (by decide) (backOf (W := 1) (rm47 l Z a0 hw [] cx b21 a1 h21 n0 O24 A21 F21_value gg22) hZ (ox hw 356 rfl) (ox hw 166 rfl) (by decide) (by decide)) (g := (mkF m 8 #[vR a1] [(.ref a1), (.ref b21), (.ref b21)])) rfl (by rw [hml]; rfl) (Steps.refl _) (a := b21) (argsL := [(.ref a1)]) (rest := [(.ref b21)]) (lenOf pd_14 rfl) rfl own_le0 (hb hby d46_8) (fun _ _ => ⟨rfl, eq27, (by decide : 1 + 0 ≤ _), (by decide : 1 + 0 ≤ _)⟩)
  dsimp only [Pt.U, Pt.locs, Pt.cells, Pt.slots] at X29 l29 y29 z29 st29 hQ29
  subst l29 y29 z29
  obtain ⟨rfl, Nq29, Kq29, fq29_0⟩ := hQ29
  have N30 := Fr.app N28 Nq29
  have O31 := O24.keep Kq29 (allS gg22 all0)
  have K32 := K25.trans Kq29 (allS (Or.inr sz23) all0)
  have q33 := fun t (kt : Go p e below T29 (mkF m 11 #[vR a1] [(.ref b21)]) t) => q26 t (st27 t (st29.trans kt))
  have f34 := (A21.keep Kq29)
  exact ⟨some (.ref b21), T29, _, _, _, _, X29, by decide, by decide, nofun, q33, fun fs hr => retOut X29 hx hret rfl (o4 ⟨rfl, rfl, rfl⟩) (hb hby d46_11) hr, ⟨b21, rfl, N30, K32, sz23, f34, fq29_0⟩⟩
theorem ef_20_ (m : MethodId) : entryFrame m #[] 1 = mkF m 0 #[.unset] [] := by first | (simp [entryFrame, mkF, argsToLocals, Value.category]; done) | rfl
theorem pn_20 : plainName "java/util/Optional" = true := by first | (simp [plainName, overriddenIn]; done) | decide +kernel
theorem d20_0 : decode jdk_32_method_1_code 0 = .ok (.getstatic 1, 3) := by decide +kernel
theorem d20_3 : decode jdk_32_method_1_code 3 = .ok (.astore_n 0, 1) := by decide +kernel
theorem d20_4 : decode jdk_32_method_1_code 4 = .ok (.aload_n 0, 1) := by decide +kernel
theorem d20_5 : decode jdk_32_method_1_code 5 = .ok (.areturn, 1) := by decide +kernel
def Q_rm20 (Z : State) (cw : Nat → Nat) (z_cs : Int32) (h0 : Heap) (n0 : Nat) (v : Option Value) (h : Heap) (L : List Loc) : Prop := v = some (.ref (cw 18)) ∧ Fr n0 L ∧ h = h0
theorem rm20 (l : Launch) (Z : State) (a0 : Array Value) (hw : ∀ d ∈ tables_1, d.before a0 Z = true) (ws : List Jvm.Cond) {cw : Nat → Nat} {z_cs : Int32} (cx : Cx Z cw z_cs) (h0 : Heap) (n0 : Nat) (O0 : Old Z n0 h0) :
    OwnMet l ym50 (Jvm.Cond.code ym50 jdk_32_method_1_code 1 (some (.object sk24)) :: ws) (own_R 0 0 0 0) #[] Z h0 (Q_rm20 Z  cw z_cs h0 n0) := by
  refine own_body (plainFor_of_name pn_20) hisR fun p e s m below meth c s₁ hx hby hml hown hnm hret hZ X0 e0 => ?_
  have N0 := Fr.nil n0
  have pre0 : ∀ t, Go p e below s₁ (mkF m 0 #[vU] []) t → Go p e below s₁ (entryFrame m #[] 1) t := fun t k => castTop (ef_20_ m ) k
  obtain ⟨T21, X21, e21, st21⟩ := getS2 X0 hx hZ hown (host := "") (Or.inl (ox hw 168 rfl)) Via.refl e0 (cx.2.2.2.2.2.2.2.2.2.2.2.2.2.2.2.2.2.2.2.2.2.2.2.2.2.2.2.2.2.2.2.2.2.2.2.1.ext O0.2) (g := (mkF m 0 #[vU] [])) rfl (hb hby d20_0)
  have q22 := fun t (kt : Go p e below T21 (mkF m 5 #[vR (cw 18)] [(.ref (cw 18))]) t) => pre0 t (st21 t (by
    show Go _ _ _ _ (mkF m 3 #[vU] [(.ref (cw 18))]) _
    refine XS.astoreN X21.here hx rfl (hb hby d20_3) rfl rfl (l' := #[vR (cw 18)]) rfl ?_
    show Go _ _ _ _ (mkF m 4 #[vR (cw 18)] []) _
    refine XS.aloadN X21.here hx rfl (hb hby d20_4) rfl rfl ?_
    exact kt))
  exact ⟨some (.ref (cw 18)), T21, _, _, _, _, X21, by decide, by decide, nofun, q22, fun fs hr => retOut X21 hx hret rfl (o4 ⟨rfl, rfl, rfl⟩) (hb hby d20_5) hr, by rw [e21]; exact ⟨rfl, N0, rfl⟩⟩
theorem ef_21_R (m : MethodId) (x0 : Addr) : entryFrame m #[(.ref x0)] 1 = mkF m 0 #[.val (.ref x0)] [] := by first | (simp [entryFrame, mkF, argsToLocals, Value.category]; done) | rfl
theorem pn_21 : plainName "java/util/Optional" = true := by first | (simp [plainName, overriddenIn]; done) | decide +kernel
theorem d21_0 : decode jdk_32_method_7_code 0 = .ok (.aload_n 0, 1) := by decide +kernel
theorem d21_1 : decode jdk_32_method_7_code 1 = .ok (.getfield 13, 3) := by decide +kernel
theorem d21_4 : decode jdk_32_method_7_code 4 = .ok (.ifnonnull 7, 3) := by decide +kernel
theorem d21_7 : decode jdk_32_method_7_code 7 = .ok (.iconst 1, 1) := by decide +kernel
theorem d21_8 : decode jdk_32_method_7_code 8 = .ok (.goto 4, 3) := by decide +kernel
theorem d21_12 : decode jdk_32_method_7_code 12 = .ok (.ireturn, 1) := by decide +kernel
def Q_rm21 (Z : State) (a1 : Addr) (cw : Nat → Nat) (z_cs : Int32) (h0 : Heap) (n0 : Nat) (v : Option Value) (h : Heap) (L : List Loc) : Prop := v = some (.int 1) ∧ Fr n0 L ∧ h = h0
theorem rm21 (l : Launch) (Z : State) (a0 : Array Value) (hw : ∀ d ∈ tables_1, d.before a0 Z = true) (ws : List Jvm.Cond) {cw : Nat → Nat} {z_cs : Int32} (cx : Cx Z cw z_cs) (a1 : Addr) (h0 : Heap) (n0 : Nat) (O0 : Old Z n0 h0) (G0 : Fld Z h0 a1 sk24 "value" sk3 .null) :
    OwnMet l ym51 (Jvm.Cond.code ym51 jdk_32_method_7_code 1 (some .boolean) :: ws) (own_R 0 0 0 0) #[(.ref a1)] Z h0 (Q_rm21 Z a1 cw z_cs h0 n0) := by
  refine own_body (plainFor_of_name pn_21) hisR fun p e s m below meth c s₁ hx hby hml hown hnm hret hZ X0 e0 => ?_
  have N0 := Fr.nil n0
  have pre0 : ∀ t, Go p e below s₁ (mkF m 0 #[vR a1] []) t → Go p e below s₁ (entryFrame m #[(.ref a1)] 1) t := fun t k => castTop (ef_21_R m a1) k
  have q21 := fun t (kt : Go p e below s₁ (mkF m 1 #[vR a1] [(.ref a1)]) t) => pre0 t (by
    show Go _ _ _ _ (mkF m 0 #[vR a1] []) _
    refine XS.aloadN X0.here hx rfl (hb hby d21_0) rfl rfl ?_
    exact kt)
  obtain ⟨T22, X22, e22, st22⟩ := getF X0 hx hZ hown (host := "") (Or.inl (ox hw 174 rfl)) Via.refl e0 G0 (g := (mkF m 1 #[vR a1] [(.ref a1)])) rfl rfl (hb hby d21_1)
  have q23 := fun t (kt : Go p e below T22 (mkF m 12 #[vR a1] [(.int 1)]) t) => q21 t (st22 t (by
    show Go _ _ _ _ (mkF m 4 #[vR a1] [.null]) _
    refine XS.ifnonnullNo X22.here hx rfl (hb hby d21_4) rfl ?_
    show Go _ _ _ _ (mkF m 7 _ []) _
    refine XS.iconst X22.here hx rfl (hb hby d21_7) ?_
    show Go _ _ _ _ (mkF m 8 _ [(.int 1)]) _
    refine XS.goto X22.here hx rfl (pc0 := 8) (pc' := 12) rfl (hb hby d21_8) (by decide) (by decide) ?_
    exact kt))
  exact ⟨some (.int 1), T22, _, _, _, _, X22, by decide, by decide, nofun, q23, fun fs hr => retN X22 hx (t := .boolean) hret (by simp) (hb hby d21_12) hr, by rw [e22]; exact ⟨rfl, N0, rfl⟩⟩
theorem ef_48_R (m : MethodId) (x0 : Addr) : entryFrame m #[(.ref x0)] 1 = mkF m 0 #[.val (.ref x0)] [] := by first | (simp [entryFrame, mkF, argsToLocals, Value.category]; done) | rfl
theorem pn_48 : plainName "java/util/Optional" = true := by first | (simp [plainName, overriddenIn]; done) | decide +kernel
theorem d48_0 : decode jdk_32_method_6_code 0 = .ok (.aload_n 0, 1) := by decide +kernel
theorem d48_1 : decode jdk_32_method_6_code 1 = .ok (.getfield 13, 3) := by decide +kernel
theorem d48_4 : decode jdk_32_method_6_code 4 = .ok (.ifnull 7, 3) := by decide +kernel
theorem d48_7 : decode jdk_32_method_6_code 7 = .ok (.iconst 1, 1) := by decide +kernel
theorem d48_8 : decode jdk_32_method_6_code 8 = .ok (.goto 4, 3) := by decide +kernel
theorem d48_12 : decode jdk_32_method_6_code 12 = .ok (.ireturn, 1) := by decide +kernel
def Q_rm48 (Z : State) (a1 : Addr) (y : Addr) (cw : Nat → Nat) (z_cs : Int32) (h0 : Heap) (n0 : Nat) (v : Option Value) (h : Heap) (L : List Loc) : Prop := v = some (.int 1) ∧ Fr n0 L ∧ h = h0
theorem rm48 (l : Launch) (Z : State) (a0 : Array Value) (hw : ∀ d ∈ tables_1, d.before a0 Z = true) (ws : List Jvm.Cond) {cw : Nat → Nat} {z_cs : Int32} (cx : Cx Z cw z_cs) (a1 : Addr) (y : Addr) (h0 : Heap) (n0 : Nat) (O0 : Old Z n0 h0) (G0 : Fld Z h0 a1 sk24 "value" sk3 (.ref y)) :
    OwnMet l ym52 (Jvm.Cond.code ym52 jdk_32_method_6_code 1 (some .boolean) :: ws) (own_R 0 0 0 0) #[(.ref a1)] Z h0 (Q_rm48 Z a1 y cw z_cs h0 n0) := by
  refine own_body (plainFor_of_name pn_48) hisR fun p e s m below meth c s₁ hx hby hml hown hnm hret hZ X0 e0 => ?_
  have N0 := Fr.nil n0
  have pre0 : ∀ t, Go p e below s₁ (mkF m 0 #[vR a1] []) t → Go p e below s₁ (entryFrame m #[(.ref a1)] 1) t := fun t k => castTop (ef_48_R m a1) k
  have q21 := fun t (kt : Go p e below s₁ (mkF m 1 #[vR a1] [(.ref a1)]) t) => pre0 t (by
    show Go _ _ _ _ (mkF m 0 #[vR a1] []) _
    refine XS.aloadN X0.here hx rfl (hb hby d48_0) rfl rfl ?_
    exact kt)
  obtain ⟨T22, X22, e22, st22⟩ := getF X0 hx hZ hown (host := "") (Or.inl (ox hw 174 rfl)) Via.refl e0 G0 (g := (mkF m 1 #[vR a1] [(.ref a1)])) rfl rfl (hb hby d48_1)
  have q23 := fun t (kt : Go p e below T22 (mkF m 12 #[vR a1] [(.int 1)]) t) => q21 t (st22 t (by
    show Go _ _ _ _ (mkF m 4 #[vR a1] [(.ref y)]) _
    refine XS.ifnullNo X22.here hx rfl (hb hby d48_4) rfl ?_
    show Go _ _ _ _ (mkF m 7 _ []) _
    refine XS.iconst X22.here hx rfl (hb hby d48_7) ?_
    show Go _ _ _ _ (mkF m 8 _ [(.int 1)]) _
    refine XS.goto X22.here hx rfl (pc0 := 8) (pc' := 12) rfl (hb hby d48_8) (by decide) (by decide) ?_
    exact kt))
  exact ⟨some (.int 1), T22, _, _, _, _, X22, by decide, by decide, nofun, q23, fun fs hr => retN X22 hx (t := .boolean) hret (by simp) (hb hby d48_12) hr, by rw [e22]; exact ⟨rfl, N0, rfl⟩⟩
theorem ef_49_R (m : MethodId) (x0 : Addr) : entryFrame m #[(.ref x0)] 1 = mkF m 0 #[.val (.ref x0)] [] := by first | (simp [entryFrame, mkF, argsToLocals, Value.category]; done) | rfl
theorem pn_49 : plainName "java/util/Optional" = true := by first | (simp [plainName, overriddenIn]; done) | decide +kernel
theorem d49_0 : decode jdk_32_method_5_code 0 = .ok (.aload_n 0, 1) := by decide +kernel
theorem d49_1 : decode jdk_32_method_5_code 1 = .ok (.getfield 13, 3) := by decide +kernel
theorem d49_4 : decode jdk_32_method_5_code 4 = .ok (.ifnonnull 13, 3) := by decide +kernel
theorem d49_17 : decode jdk_32_method_5_code 17 = .ok (.aload_n 0, 1) := by decide +kernel
theorem d49_18 : decode jdk_32_method_5_code 18 = .ok (.getfield 13, 3) := by decide +kernel
theorem d49_21 : decode jdk_32_method_5_code 21 = .ok (.areturn, 1) := by decide +kernel
def Q_rm49 (Z : State) (a1 : Addr) (y : Addr) (cw : Nat → Nat) (z_cs : Int32) (h0 : Heap) (n0 : Nat) (v : Option Value) (h : Heap) (L : List Loc) : Prop := v = some (.ref y) ∧ Fr n0 L ∧ h = h0
theorem rm49 (l : Launch) (Z : State) (a0 : Array Value) (hw : ∀ d ∈ tables_1, d.before a0 Z = true) (ws : List Jvm.Cond) {cw : Nat → Nat} {z_cs : Int32} (cx : Cx Z cw z_cs) (a1 : Addr) (y : Addr) (h0 : Heap) (n0 : Nat) (O0 : Old Z n0 h0) (G0 : Fld Z h0 a1 sk24 "value" sk3 (.ref y)) :
    OwnMet l ym53 (Jvm.Cond.code ym53 jdk_32_method_5_code 1 (some (.object sk14)) :: ws) (own_R 0 0 0 0) #[(.ref a1)] Z h0 (Q_rm49 Z a1 y cw z_cs h0 n0) := by
  refine own_body (plainFor_of_name pn_49) hisR fun p e s m below meth c s₁ hx hby hml hown hnm hret hZ X0 e0 => ?_
  have N0 := Fr.nil n0
  have pre0 : ∀ t, Go p e below s₁ (mkF m 0 #[vR a1] []) t → Go p e below s₁ (entryFrame m #[(.ref a1)] 1) t := fun t k => castTop (ef_49_R m a1) k
  have q21 := fun t (kt : Go p e below s₁ (mkF m 1 #[vR a1] [(.ref a1)]) t) => pre0 t (by
    show Go _ _ _ _ (mkF m 0 #[vR a1] []) _
    refine XS.aloadN X0.here hx rfl (hb hby d49_0) rfl rfl ?_
    exact kt)
  obtain ⟨T22, X22, e22, st22⟩ := getF X0 hx hZ hown (host := "") (Or.inl (ox hw 174 rfl)) Via.refl e0 G0 (g := (mkF m 1 #[vR a1] [(.ref a1)])) rfl rfl (hb hby d49_1)
  have q23 := fun t (kt : Go p e below T22 (mkF m 18 #[vR a1] [(.ref a1)]) t) => q21 t (st22 t (by
    show Go _ _ _ _ (mkF m 4 #[vR a1] [(.ref y)]) _
    refine XS.ifnonnullYes X22.here hx rfl (pc0 := 4) (pc' := 17) rfl (hb hby d49_4) rfl (by decide) (by decide) ?_
    show Go _ _ _ _ (mkF m 17 _ []) _
    refine XS.aloadN X22.here hx rfl (hb hby d49_17) rfl rfl ?_
    exact kt))
  obtain ⟨T24, X24, e24, st24⟩ := getF X22 hx hZ hown (host := "") (Or.inl (ox hw 174 rfl)) Via.refl e22 G0 (g := (mkF m 18 #[vR a1] [(.ref a1)])) rfl rfl (hb hby d49_18)
  have q25 := fun t (kt : Go p e below T24 (mkF m 21 #[vR a1] [(.ref y)]) t) => q23 t (st24 t kt)
  exact ⟨some (.ref y), T24, _, _, _, _, X24, by decide, by decide, nofun, q25, fun fs hr => retOut X24 hx hret rfl (o4 ⟨rfl, rfl, rfl⟩) (hb hby d49_21) hr, by rw [e24]; exact ⟨rfl, N0, rfl⟩⟩
theorem ef_15_R (m : MethodId) (x0 : Addr) : entryFrame m #[(.ref x0)] 3 = mkF m 0 #[.val (.ref x0), .unset, .unset] [] := by first | (simp [entryFrame, mkF, argsToLocals, Value.category]; done) | rfl
theorem pn_15 : plainName "com/example/sherman/sherman/service/Verification" = true := by first | (simp [plainName, overriddenIn]; done) | decide +kernel
theorem d15_0 : decode prog_13_method_2_code 0 = .ok (.aload_n 0, 1) := by decide +kernel
theorem d15_1 : decode prog_13_method_2_code 1 = .ok (.getfield 13, 3) := by decide +kernel
theorem d15_4 : decode prog_13_method_2_code 4 = .ok (.invokeinterface 22 1, 5) := by decide +kernel
theorem pd_24 : parseMethodDescriptor "()Ljava/util/Iterator;" = some ⟨[], some (.object "java/util/Iterator")⟩ := by decide +kernel
theorem d15_9 : decode prog_13_method_2_code 9 = .ok (.astore_n 1, 1) := by decide +kernel
theorem d15_10 : decode prog_13_method_2_code 10 = .ok (.aload_n 1, 1) := by decide +kernel
theorem d15_11 : decode prog_13_method_2_code 11 = .ok (.invokeinterface 26 1, 5) := by decide +kernel
theorem d15_16 : decode prog_13_method_2_code 16 = .ok (.ifCond .eq 34, 3) := by decide +kernel
theorem d15_50 : decode prog_13_method_2_code 50 = .ok (.invokestatic 58, 3) := by decide +kernel
theorem pd_25 : parseMethodDescriptor "()Ljava/util/Optional;" = some ⟨[], some (.object "java/util/Optional")⟩ := by decide +kernel
theorem d15_53 : decode prog_13_method_2_code 53 = .ok (.areturn, 1) := by decide +kernel
def Q_rm15_0 (Z : State) (a1 : Addr) (a2 : Addr) (ra : Addr) (kr : ClassId) (cw : Nat → Nat) (z_cs : Int32) (h0 : Heap) (n0 : Nat) (v : Option Value) (h : Heap) (L : List Loc) : Prop := ∃ (b : Addr), v = some (.ref b) ∧ Fr n0 L ∧ Keep h0 h [] ∧ Exa Z h b sk24 ∧ Fld Z h b sk24 "value" sk3 (own_find (cw 1) [])
theorem rm15_0 (l : Launch) (Z : State) (a0 : Array Value) (hw : ∀ d ∈ tables_1, d.before a0 Z = true) (ws : List Jvm.Cond) {cw : Nat → Nat} {z_cs : Int32} (cx : Cx Z cw z_cs) (a1 : Addr) (a2 : Addr) (ra : Addr) (kr : ClassId) (h0 : Heap) (n0 : Nat) (O0 : Old Z n0 h0) (G0 : Fld Z h0 a1 sk8 "outcomes" sk5 (.ref a2)) (G1 : Exa Z h0 a2 sk21) (G2 : Fld Z h0 a2 sk21 "elements" sk6 (.ref ra)) (G3 : Arv Z h0 ra kr (.object sk14) (0 : Int32) [] .null) :
    OwnMet l ym54 (Jvm.Cond.code ym54 prog_13_method_2_code 3 (some (.object sk24)) :: ws) (own_R 3 1 4 39) #[(.ref a1)] Z h0 (Q_rm15_0 Z a1 a2 ra kr cw z_cs h0 n0) := by
  refine own_body (plainFor_of_name pn_15) hisR fun p e s m below meth c s₁ hx hby hml hown hnm hret hZ X0 e0 => ?_
  have N0 := Fr.nil n0
  have K0 : Keep h0 h0 [] := Keep.refl _ _
  have pre0 : ∀ t, Go p e below s₁ (mkF m 0 #[vR a1, vU, vU] []) t → Go p e below s₁ (entryFrame m #[(.ref a1)] 3) t := fun t k => castTop (ef_15_R m a1) k
  have q21 := fun t (kt : Go p e below s₁ (mkF m 1 #[vR a1, vU, vU] [(.ref a1)]) t) => pre0 t (by
    show Go _ _ _ _ (mkF m 0 #[vR a1, vU, vU] []) _
    refine XS.aloadN X0.here hx rfl (hb hby d15_0) rfl rfl ?_
    exact kt)
  obtain ⟨T22, X22, e22, st22⟩ := getF X0 hx hZ hown (host := "") (Or.inl (ox hw 111 rfl)) Via.refl e0 G0 (g := (mkF m 1 #[vR a1, vU, vU] [(.ref a1)])) rfl rfl (hb hby d15_1)
  obtain ⟨cq24, kq24, q24a, q24b, q24c⟩ := isOf hZ e22 G1
  obtain ⟨_, _, ⟨T23, L23, k23, n23⟩, -, X23, ⟨_, hQ23, l23, y23, z23⟩, st23⟩ := X22.interfaceBack hx (xi := ym55) (y := ym39) hown (ow hZ hw 120 rfl) (ow hZ hw 121 rfl) (ow hZ hw 122 rfl) (ow hZ hw 123 rfl) (ow hZ hw 124 rfl) (ow hZ hw 125 rfl) (ow hZ hw 126 rfl) (ow hZ hw 127 rfl) (by decide) (backOf (W := 0) (rm16_0 l Z a0 hw [] cx a2 ra kr h0 n0 O0 G1 G2 G3) hZ (ox hw 129 rfl) (ox hw 128 rfl) (by decide) (by decide)) q24a q24b q24c (g := (mkF m 4 #[vR a1, vU, vU] [(.ref a2)])) rfl (by rw [hml]; rfl) (Steps.refl _) (argsL := []) (rest := []) (lenOf pd_24 rfl) rfl own_le0 (hb hby d15_4) (fun _ _ => ⟨rfl, e22, (by decide : 0 + 1 ≤ _), (by decide : 0 + 4 ≤ _)⟩)
  dsimp only [Pt.U, Pt.locs, Pt.cells, Pt.slots] at X23 l23 y23 z23 st23 hQ23
  subst l23 y23 z23
  obtain ⟨it_23, rfl, Nq23, Kq23, fr23_0, fq23_0, fq23_1, fq23_2, fq23_3⟩ := hQ23
  have N25 := Fr.app N0 Nq23
  have gg26 : n0 ≤ it_23 := Nat.le_trans (O0.1 ▸ O0.2.1) fr23_0
  have sz27 : h0.size ≤ it_23 := Nat.le_trans K0.1 fr23_0
  have O28 := O0.keep Kq23 all0
  have K29 := K0.trans Kq23 all0
  have q30 := fun t (kt : Go p e below T23 (mkF m 11 #[vR a1, vR it_23, vU] [(.ref it_23)]) t) => q21 t (st22 t (st23.trans (by
    show Go _ _ _ _ (mkF m 9 #[vR a1, vU, vU] [(.ref it_23)]) _
    refine XS.astoreN X23.here hx rfl (hb hby d15_9) rfl rfl (l' := #[vR a1, vR it_23, vU]) rfl ?_
    show Go _ _ _ _ (mkF m 10 #[vR a1, vR it_23, vU] []) _
    refine XS.aloadN X23.here hx rfl (hb hby d15_10) rfl rfl ?_
    exact kt)))
  obtain ⟨cq32, kq32, q32a, q32b, q32c⟩ := isOf hZ rfl fq23_0
  obtain ⟨_, _, ⟨T31, L31, k31, n31⟩, -, X31, ⟨_, hQ31, l31, y31, z31⟩, st31⟩ := X23.interfaceBack hx (xi := ym56) (y := ym41) hown (ow hZ hw 155 rfl) (ow hZ hw 156 rfl) (ow hZ hw 157 rfl) (ow hZ hw 158 rfl) (ow hZ hw 159 rfl) (ow hZ hw 160 rfl) (ow hZ hw 161 rfl) (ow hZ hw 162 rfl) (by decide) (backOf (W := 0) (rm19N l Z a0 hw [] cx it_23 (0 : Int32) (0 : Int32) T23.heap n0 O28 fq23_3 fq23_2 (rfl : (0 : Int32) = (0 : Int32))) hZ (ox hw 163 rfl) (ox hw 132 rfl) (by decide) (by decide)) q32a q32b q32c (g := (mkF m 11 #[vR a1, vR it_23, vU] [(.ref it_23)])) rfl (by rw [hml]; rfl) (Steps.refl _) (argsL := []) (rest := []) (lenOf pd_15 rfl) rfl own_le0 (hb hby d15_11) (fun _ _ => ⟨rfl, rfl, (by decide : 1 + 0 ≤ _), (by decide : 4 + 0 ≤ _)⟩)
  dsimp only [Pt.U, Pt.locs, Pt.cells, Pt.slots] at X31 l31 y31 z31 st31 hQ31
  subst l31 y31 z31
  obtain ⟨rfl, Nq31, eq31⟩ := hQ31
  have N33 := Fr.app N25 Nq31
  have q34 := fun t (kt : Go p e below T31 (mkF m 50 #[vR a1, vR it_23, vU] []) t) => q30 t (st31.trans (by
    show Go _ _ _ _ (mkF m 16 #[vR a1, vR it_23, vU] [(.int 0)]) _
    refine XS.ifYes X31.here hx rfl (pc0 := 16) (pc' := 50) rfl (hb hby d15_16) rfl ((if0 _ _).trans (teq (rfl : (0 : Int32) = (0 : Int32))).1) (by decide) (by decide) ?_
    exact kt))
  obtain ⟨_, _, ⟨T35, L35, k35, n35⟩, -, X35, ⟨_, hQ35, l35, y35, z35⟩, st35⟩ := Jvm.LawKit.callS X31 hx (y := ym50) hown (ow hZ hw 164 rfl) (ow hZ hw 165 rfl) (ow hZ hw 166 rfl) (ow hZ hw 167 rfl) (by decide) (backOf (W := 0) (rm20 l Z a0 hw [] cx  T23.heap n0 O28 ) hZ (ox hw 167 rfl) (ox hw 166 rfl) (by decide) (by decide)) (g := (mkF m 50 #[vR a1, vR it_23, vU] [])) rfl (by rw [hml]; rfl) (argsL := []) (rest := []) (lenOf pd_25 rfl) rfl own_le0 (hb hby d15_50) (fun _ _ => ⟨rfl, eq31, (by decide : 1 + 0 ≤ _), (by decide : 4 + 0 ≤ _)⟩)
  dsimp only [Pt.U, Pt.locs, Pt.cells, Pt.slots] at X35 l35 y35 z35 st35 hQ35
  subst l35 y35 z35
  obtain ⟨rfl, Nq35, eq35⟩ := hQ35
  have N36 := Fr.app N33 Nq35
  have q37 := fun t (kt : Go p e below T35 (mkF m 53 #[vR a1, vR it_23, vU] [(.ref (cw 18))]) t) => q34 t (st35 t kt)
  exact ⟨some (.ref (cw 18)), T35, _, _, _, _, X35, by decide, by decide, nofun, q37, fun fs hr => retOut X35 hx hret rfl (o4 ⟨rfl, rfl, rfl⟩) (hb hby d15_53) hr, by rw [eq35]; exact ⟨(cw 18), rfl, N36, K29, (cx.2.2.2.2.2.2.2.2.2.2.2.2.2.2.2.2.2.2.2.2.2.2.2.2.2.2.2.2.2.2.2.2.2.2.2.2.1.ext O28.2), (by have z := (cx.2.2.2.2.2.2.2.2.2.2.2.2.2.2.2.2.2.2.2.2.2.2.2.2.2.2.2.2.2.2.2.2.2.2.2.2.2.1.ext O28.2); rw [show Value.null = (own_find (cw 1) []) from by simp [own_find]] at z; exact z)⟩⟩
theorem d15_19 : decode prog_13_method_2_code 19 = .ok (.aload_n 1, 1) := by decide +kernel
theorem d15_20 : decode prog_13_method_2_code 20 = .ok (.invokeinterface 32 1, 5) := by decide +kernel
theorem pd_26 : parseMethodDescriptor "()Ljava/lang/Object;" = some ⟨[], some (.object "java/lang/Object")⟩ := by decide +kernel
theorem d15_25 : decode prog_13_method_2_code 25 = .ok (.checkcast 36, 3) := by decide +kernel
theorem d15_28 : decode prog_13_method_2_code 28 = .ok (.astore_n 2, 1) := by decide +kernel
theorem d15_29 : decode prog_13_method_2_code 29 = .ok (.aload_n 2, 1) := by decide +kernel
theorem d15_30 : decode prog_13_method_2_code 30 = .ok (.invokevirtual 38, 3) := by decide +kernel
theorem pd_27 : parseMethodDescriptor "()Lcom/example/sherman/sherman/service/Verification$Status;" = some ⟨[], some (.object "com/example/sherman/sherman/service/Verification$Status")⟩ := by decide +kernel
theorem d15_33 : decode prog_13_method_2_code 33 = .ok (.getstatic 42, 3) := by decide +kernel
theorem d15_36 : decode prog_13_method_2_code 36 = .ok (.if_acmp .ne 11, 3) := by decide +kernel
theorem d15_39 : decode prog_13_method_2_code 39 = .ok (.aload_n 2, 1) := by decide +kernel
theorem d15_40 : decode prog_13_method_2_code 40 = .ok (.invokevirtual 48, 3) := by decide +kernel
theorem pd_28 : parseMethodDescriptor "()Lcom/example/sherman/sherman/service/Step;" = some ⟨[], some (.object "com/example/sherman/sherman/service/Step")⟩ := by decide +kernel
theorem d15_43 : decode prog_13_method_2_code 43 = .ok (.invokestatic 52, 3) := by decide +kernel
theorem pd_29 : parseMethodDescriptor "(Ljava/lang/Object;)Ljava/util/Optional;" = some ⟨[(.object "java/lang/Object")], some (.object "java/util/Optional")⟩ := by decide +kernel
theorem d15_46 : decode prog_13_method_2_code 46 = .ok (.areturn, 1) := by decide +kernel
theorem d15_47 : decode prog_13_method_2_code 47 = .ok (.goto (-37), 3) := by decide +kernel
def Q_rm15_1 (Z : State) (a1 : Addr) (a2 : Addr) (x1 : Addr) (s1 : Addr) (t1 : Addr) (cw : Nat → Nat) (z_cs : Int32) (h0 : Heap) (n0 : Nat) (v : Option Value) (h : Heap) (L : List Loc) : Prop := ∃ (b : Addr), v = some (.ref b) ∧ Fr n0 L ∧ Keep h0 h [] ∧ Exa Z h b sk24 ∧ Fld Z h b sk24 "value" sk3 (own_find (cw 1) [(s1, t1)])
theorem rm15_1 (l : Launch) (Z : State) (a0 : Array Value) (hw : ∀ d ∈ tables_1, d.before a0 Z = true) (ws : List Jvm.Cond) {cw : Nat → Nat} {z_cs : Int32} (cx : Cx Z cw z_cs) (a1 : Addr) (a2 : Addr) (x1 : Addr) (s1 : Addr) (t1 : Addr) (h0 : Heap) (n0 : Nat) (O0 : Old Z n0 h0) (G0 : Fld Z h0 a1 sk8 "outcomes" sk5 (.ref a2)) (G1 : Exa Z h0 a2 sk19) (G2 : Fld Z h0 a2 sk19 "e0" sk3 (.ref x1)) (G3 : Fld Z h0 a2 sk19 "e1" sk3 (.ref (cw 19))) (G4 : Exa Z h0 x1 sk9) (G5 : Fld Z h0 x1 sk9 "step" sk1 (.ref t1)) (G6 : Fld Z h0 x1 sk9 "status" sk2 (.ref s1)) (g_x1 : n0 ≤ x1) :
    OwnMet l ym54 (Jvm.Cond.code ym54 prog_13_method_2_code 3 (some (.object sk24)) :: ws) (own_R 3 2 5 39) #[(.ref a1)] Z h0 (Q_rm15_1 Z a1 a2 x1 s1 t1 cw z_cs h0 n0) := by
  refine own_body (plainFor_of_name pn_15) hisR fun p e s m below meth c s₁ hx hby hml hown hnm hret hZ X0 e0 => ?_
  have N0 := Fr.nil n0
  have K0 : Keep h0 h0 [] := Keep.refl _ _
  have pre0 : ∀ t, Go p e below s₁ (mkF m 0 #[vR a1, vU, vU] []) t → Go p e below s₁ (entryFrame m #[(.ref a1)] 3) t := fun t k => castTop (ef_15_R m a1) k
  have q21 := fun t (kt : Go p e below s₁ (mkF m 1 #[vR a1, vU, vU] [(.ref a1)]) t) => pre0 t (by
    show Go _ _ _ _ (mkF m 0 #[vR a1, vU, vU] []) _
    refine XS.aloadN X0.here hx rfl (hb hby d15_0) rfl rfl ?_
    exact kt)
  obtain ⟨T22, X22, e22, st22⟩ := getF X0 hx hZ hown (host := "") (Or.inl (ox hw 111 rfl)) Via.refl e0 G0 (g := (mkF m 1 #[vR a1, vU, vU] [(.ref a1)])) rfl rfl (hb hby d15_1)
  obtain ⟨cq24, kq24, q24a, q24b, q24c⟩ := isOf hZ e22 G1
  obtain ⟨_, _, ⟨T23, L23, k23, n23⟩, -, X23, ⟨_, hQ23, l23, y23, z23⟩, st23⟩ := X22.interfaceBack hx (xi := ym55) (y := ym39) hown (ow hZ hw 120 rfl) (ow hZ hw 121 rfl) (ow hZ hw 122 rfl) (ow hZ hw 371 rfl) (ow hZ hw 124 rfl) (ow hZ hw 125 rfl) (ow hZ hw 372 rfl) (ow hZ hw 373 rfl) (by decide) (backOf (W := 0) (rm16_1 l Z a0 hw [] cx a2 x1 h0 n0 O0 G1 G2 G3) hZ (ox hw 129 rfl) (ox hw 128 rfl) (by decide) (by decide)) q24a q24b q24c (g := (mkF m 4 #[vR a1, vU, vU] [(.ref a2)])) rfl (by rw [hml]; rfl) (Steps.refl _) (argsL := []) (rest := []) (lenOf pd_24 rfl) rfl own_le0 (hb hby d15_4) (fun _ _ => ⟨rfl, e22, (by decide : 0 + 1 ≤ _), (by decide : 0 + 4 ≤ _)⟩)
  dsimp only [Pt.U, Pt.locs, Pt.cells, Pt.slots] at X23 l23 y23 z23 st23 hQ23
  subst l23 y23 z23
  obtain ⟨it_23, rfl, Nq23, Kq23, fr23_0, fq23_0, fq23_1, fq23_2, fq23_3⟩ := hQ23
  have N25 := Fr.app N0 Nq23
  have gg26 : n0 ≤ it_23 := Nat.le_trans (O0.1 ▸ O0.2.1) fr23_0
  have sz27 : h0.size ≤ it_23 := Nat.le_trans K0.1 fr23_0
  have O28 := O0.keep Kq23 all0
  have K29 := K0.trans Kq23 all0
  have q30 := fun t (kt : Go p e below T23 (mkF m 11 #[vR a1, vR it_23, vU] [(.ref it_23)]) t) => q21 t (st22 t (st23.trans (by
    show Go _ _ _ _ (mkF m 9 #[vR a1, vU, vU] [(.ref it_23)]) _
    refine XS.astoreN X23.here hx rfl (hb hby d15_9) rfl rfl (l' := #[vR a1, vR it_23, vU]) rfl ?_
    show Go _ _ _ _ (mkF m 10 #[vR a1, vR it_23, vU] []) _
    refine XS.aloadN X23.here hx rfl (hb hby d15_10) rfl rfl ?_
    exact kt)))
  obtain ⟨cq32, kq32, q32a, q32b, q32c⟩ := isOf hZ rfl fq23_0
  obtain ⟨_, _, ⟨T31, L31, k31, n31⟩, -, X31, ⟨_, hQ31, l31, y31, z31⟩, st31⟩ := X23.interfaceBack hx (xi := ym56) (y := ym41) hown (ow hZ hw 155 rfl) (ow hZ hw 156 rfl) (ow hZ hw 157 rfl) (ow hZ hw 158 rfl) (ow hZ hw 159 rfl) (ow hZ hw 160 rfl) (ow hZ hw 161 rfl) (ow hZ hw 162 rfl) (by decide) (backOf (W := 0) (rm19Y l Z a0 hw [] cx it_23 (0 : Int32) (1 : Int32) T23.heap n0 O28 fq23_3 fq23_2 (by decide : ¬ ((0 : Int32) = (1 : Int32)))) hZ (ox hw 163 rfl) (ox hw 132 rfl) (by decide) (by decide)) q32a q32b q32c (g := (mkF m 11 #[vR a1, vR it_23, vU] [(.ref it_23)])) rfl (by rw [hml]; rfl) (Steps.refl _) (argsL := []) (rest := []) (lenOf pd_15 rfl) rfl own_le0 (hb hby d15_11) (fun _ _ => ⟨rfl, rfl, (by decide : 1 + 0 ≤ _), (by decide : 4 + 0 ≤ _)⟩)
  dsimp only [Pt.U, Pt.locs, Pt.cells, Pt.slots] at X31 l31 y31 z31 st31 hQ31
  subst l31 y31 z31
  obtain ⟨rfl, Nq31, eq31⟩ := hQ31
  have N33 := Fr.app N25 Nq31
  have f34 := (G1.keep Kq23)
  have f35 := (G2.keep Kq23 nin0)
  have f36 := (G3.keep Kq23 nin0)
  have q37 := fun t (kt : Go p e below T31 (mkF m 20 #[vR a1, vR it_23, vU] [(.ref it_23)]) t) => q30 t (st31.trans (by
    show Go _ _ _ _ (mkF m 16 #[vR a1, vR it_23, vU] [(.int 1)]) _
    refine XS.ifNo X31.here hx rfl (hb hby d15_16) rfl ((if0 _ _).trans (feq (by decide : ¬ ((1 : Int32) = (0 : Int32)))).1) ?_
    show Go _ _ _ _ (mkF m 19 _ []) _
    refine XS.aloadN X31.here hx rfl (hb hby d15_19) rfl rfl ?_
    exact kt))
  obtain ⟨cq39, kq39, q39a, q39b, q39c⟩ := isOf hZ eq31 fq23_0
  obtain ⟨_, _, ⟨T38, L38, k38, n38⟩, -, X38, ⟨_, hQ38, l38, y38, z38⟩, st38⟩ := X31.interfaceBack hx (xi := ym57) (y := ym44) hown (ow hZ hw 311 rfl) (ow hZ hw 312 rfl) (ow hZ hw 313 rfl) (ow hZ hw 314 rfl) (ow hZ hw 315 rfl) (ow hZ hw 316 rfl) (ow hZ hw 317 rfl) (ow hZ hw 162 rfl) (by decide) (backOfWith (W := 0) (rm42_10 l Z a0 hw [] cx it_23 a2 x1 T23.heap n0 O28 fq23_0 fq23_1 fq23_2 fq23_3 f34 f35 f36 gg26) hZ (ox hw 318 rfl) (ox hw 132 rfl) (by decide) (by decide)) q39a q39b q39c (g := (mkF m 20 #[vR a1, vR it_23, vU] [(.ref it_23)])) rfl (by rw [hml]; rfl) (Steps.refl _) (argsL := []) (rest := []) (lenOf pd_26 rfl) rfl own_le0 (hb hby d15_20) (fun _ _ => ⟨rfl, eq31, (by decide : 1 + 0 ≤ _), (by decide : 4 + 0 ≤ _)⟩)
  dsimp only [Pt.U, Pt.locs, Pt.cells, Pt.slots] at X38 l38 y38 z38 st38 hQ38
  subst l38 y38 z38
  obtain ⟨rfl, Nq38, Kq38, fq38_0, fq38_1, fq38_2⟩ := hQ38
  have N40 := Fr.app N33 Nq38
  have O41 := O28.keep Kq38 (allS gg26 all0)
  have K42 := K29.trans Kq38 (allS (Or.inr sz27) all0)
  have f43 := ((G4.keep Kq23).keep Kq38)
  obtain ⟨T44, X44, e44, st44⟩ := castY X38 hx hZ hown (ox hw 327 rfl) rfl (Ins.self f43) (g := (mkF m 25 #[vR a1, vR it_23, vU] [(.ref x1)])) rfl rfl (hb hby d15_25)
  have ne45 : x1 ≠ it_23 := (Nat.ne_of_lt (Nat.lt_of_lt_of_le G4.lt fr23_0))
  have f46 := ((G6.keep Kq23 nin0).keep Kq38 (ninS ne45 nin0))
  have q47 := fun t (kt : Go p e below T44 (mkF m 30 #[vR a1, vR it_23, vR x1] [(.ref x1)]) t) => q37 t (st38.trans (st44 t (by
    show Go _ _ _ _ (mkF m 28 #[vR a1, vR it_23, vU] [(.ref x1)]) _
    refine XS.astoreN X44.here hx rfl (hb hby d15_28) rfl rfl (l' := #[vR a1, vR it_23, vR x1]) rfl ?_
    show Go _ _ _ _ (mkF m 29 #[vR a1, vR it_23, vR x1] []) _
    refine XS.aloadN X44.here hx rfl (hb hby d15_29) rfl rfl ?_
    exact kt)))
  obtain ⟨cq49, kq49, q49a, q49b, q49c⟩ := isOf hZ e44 f43
  obtain ⟨_, _, ⟨T48, L48, k48, n48⟩, -, X48, ⟨_, hQ48, l48, y48, z48⟩, st48⟩ := X44.virtualBack hx (y := ym46) (z := ym46) hown (ow hZ hw 329 rfl) (ow hZ hw 330 rfl) (notFace_of_selects (args := #[]) (ow hZ hw 332 rfl)) (ow hZ hw 332 rfl) (ow hZ hw 331 rfl) (by decide) (backOf (W := 0) (rm44 l Z a0 hw [] cx x1 s1 T38.heap n0 O41 f46) hZ (ox hw 333 rfl) (ox hw 23 rfl) (by decide) (by decide)) q49a q49c (g := (mkF m 30 #[vR a1, vR it_23, vR x1] [(.ref x1)])) rfl (by rw [hml]; rfl) (Steps.refl _) (argsL := []) (rest := []) (lenOf pd_27 rfl) rfl own_le0 (hb hby d15_30) (fun _ _ => ⟨rfl, e44, (by decide : 1 + 0 ≤ _), (by decide : 4 + 0 ≤ _)⟩)
  dsimp only [Pt.U, Pt.locs, Pt.cells, Pt.slots] at X48 l48 y48 z48 st48 hQ48
  subst l48 y48 z48
  obtain ⟨rfl, Nq48, eq48⟩ := hQ48
  have N50 := Fr.app N40 Nq48
  obtain ⟨T51, X51, e51, st51⟩ := getS2 X48 hx hZ hown (host := "") (Or.inl (ox hw 334 rfl)) Via.refl eq48 (cx.2.2.1.ext O41.2) (g := (mkF m 33 #[vR a1, vR it_23, vR x1] [(.ref s1)])) rfl (hb hby d15_33)
  have q52 := fun t (kt : Go p e below T51 (mkF m 36 #[vR a1, vR it_23, vR x1] [(.ref (cw 1)), (.ref s1)]) t) => q47 t (st48.trans (st51 t kt))
  by_cases hc53 : s1 = (cw 1)
  · have f54 := ((G5.keep Kq23 nin0).keep Kq38 (ninS ne45 nin0))
    have q55 := fun t (kt : Go p e below T51 (mkF m 40 #[vR a1, vR it_23, vR x1] [(.ref x1)]) t) => q52 t (by
      show Go _ _ _ _ (mkF m 36 #[vR a1, vR it_23, vR x1] [(.ref (cw 1)), (.ref s1)]) _
      refine Jvm.RoadKit.acmp (g := (mkF m 36 #[vR a1, vR it_23, vR x1] [(.ref (cw 1)), (.ref s1)])) X51 hx rfl rfl rfl (pc0 := 36) (pc' := 39) (same := true) rfl (hb hby d15_36) rfl (decide_eq_true (congrArg Value.ref hc53)) (by decide) (by decide) ?_
      show Go _ _ _ _ (mkF m 39 _ []) _
      refine XS.aloadN X51.here hx rfl (hb hby d15_39) rfl rfl ?_
      exact kt)
    obtain ⟨cq57, kq57, q57a, q57b, q57c⟩ := isOf hZ e51 f43
    obtain ⟨_, _, ⟨T56, L56, k56, n56⟩, -, X56, ⟨_, hQ56, l56, y56, z56⟩, st56⟩ := X51.virtualBack hx (y := ym47) (z := ym47) hown (ow hZ hw 342 rfl) (ow hZ hw 343 rfl) (notFace_of_selects (args := #[]) (ow hZ hw 345 rfl)) (ow hZ hw 345 rfl) (ow hZ hw 344 rfl) (by decide) (backOf (W := 0) (rm45 l Z a0 hw [] cx x1 t1 T38.heap n0 O41 f54) hZ (ox hw 346 rfl) (ox hw 23 rfl) (by decide) (by decide)) q57a q57c (g := (mkF m 40 #[vR a1, vR it_23, vR x1] [(.ref x1)])) rfl (by rw [hml]; rfl) (Steps.refl _) (argsL := []) (rest := []) (lenOf pd_28 rfl) rfl own_le0 (hb hby d15_40) (fun _ _ => ⟨rfl, e51, (by decide : 1 + 0 ≤ _), (by decide : 4 + 0 ≤ _)⟩)
    dsimp only [Pt.U, Pt.locs, Pt.cells, Pt.slots] at X56 l56 y56 z56 st56 hQ56
    subst l56 y56 z56
    obtain ⟨rfl, Nq56, eq56⟩ := hQ56
    have N58 := Fr.app N50 Nq56
    obtain ⟨_, _, ⟨T59, L59, k59, n59⟩, -, X59, ⟨_, hQ59, l59, y59, z59⟩, st59⟩ := Jvm.LawKit.callS X56 hx (y := ym49) hown (ow hZ hw 347 rfl) (ow hZ hw 348 rfl) (ow hZ hw 166 rfl) (ow hZ hw 349 rfl) (by decide) (backOf (W := 0) (rm46 l Z a0 hw [] cx t1 T38.heap n0 O41 ) hZ (ox hw 349 rfl) (ox hw 166 rfl) (by decide) (by decide)) (g := (mkF m 43 #[vR a1, vR it_23, vR x1] [(.ref t1)])) rfl (by rw [hml]; rfl) (argsL := [(.ref t1)]) (rest := []) (lenOf pd_29 rfl) rfl own_le0 (hb hby d15_43) (fun _ _ => ⟨rfl, eq56, (by decide : 1 + 1 ≤ _), (by decide : 4 + 1 ≤ _)⟩)
    dsimp only [Pt.U, Pt.locs, Pt.cells, Pt.slots] at X59 l59 y59 z59 st59 hQ59
    subst l59 y59 z59
    obtain ⟨b_59, rfl, Nq59, Kq59, fr59_0, fq59_0, fq59_1⟩ := hQ59
    have N60 := Fr.app N58 Nq59
    have gg61 : n0 ≤ b_59 := Nat.le_trans (O41.1 ▸ O41.2.1) fr59_0
    have sz62 : h0.size ≤ b_59 := Nat.le_trans K42.1 fr59_0
    have O63 := O41.keep Kq59 all0
    have K64 := K42.trans Kq59 all0
    have q65 := fun t (kt : Go p e below T59 (mkF m 46 #[vR a1, vR it_23, vR x1] [(.ref b_59)]) t) => q55 t (st56.trans (st59 t kt))
    exact ⟨some (.ref b_59), T59, _, _, _, _, X59, by decide, by decide, nofun, q65, fun fs hr => retOut X59 hx hret rfl (o4 ⟨rfl, rfl, rfl⟩) (hb hby d15_46) hr, ⟨b_59, rfl, N60, K64, fq59_0, (by have z := fq59_1; rw [show (Value.ref t1) = (own_find (cw 1) [(s1, t1)]) from by simp [own_find, hc53]] at z; exact z)⟩⟩
  · have q66 := fun t (kt : Go p e below T51 (mkF m 11 #[vR a1, vR it_23, vR x1] [(.ref it_23)]) t) => q52 t (by
      show Go _ _ _ _ (mkF m 36 #[vR a1, vR it_23, vR x1] [(.ref (cw 1)), (.ref s1)]) _
      refine Jvm.RoadKit.acmp (g := (mkF m 36 #[vR a1, vR it_23, vR x1] [(.ref (cw 1)), (.ref s1)])) X51 hx rfl rfl rfl (pc0 := 36) (pc' := 47) (same := false) rfl (hb hby d15_36) rfl (decide_eq_false (fun q => hc53 (Value.ref.inj q))) (by decide) (by decide) ?_
      show Go _ _ _ _ (mkF m 47 _ []) _
      refine XS.goto X51.here hx rfl (pc0 := 47) (pc' := 10) rfl (hb hby d15_47) (by decide) (by decide) ?_
      show Go _ _ _ _ (mkF m 10 _ []) _
      refine XS.aloadN X51.here hx rfl (hb hby d15_10) rfl rfl ?_
      exact kt)
    have f69 := (fq23_0.keep Kq38)
    obtain ⟨cq68, kq68, q68a, q68b, q68c⟩ := isOf hZ e51 f69
    obtain ⟨_, _, ⟨T67, L67, k67, n67⟩, -, X67, ⟨_, hQ67, l67, y67, z67⟩, st67⟩ := X51.interfaceBack hx (xi := ym56) (y := ym41) hown (ow hZ hw 155 rfl) (ow hZ hw 156 rfl) (ow hZ hw 157 rfl) (ow hZ hw 158 rfl) (ow hZ hw 159 rfl) (ow hZ hw 160 rfl) (ow hZ hw 161 rfl) (ow hZ hw 162 rfl) (by decide) (backOf (W := 0) (rm19N l Z a0 hw [] cx it_23 (1 : Int32) (1 : Int32) T38.heap n0 O41 fq38_2 fq38_1 (rfl : (1 : Int32) = (1 : Int32))) hZ (ox hw 163 rfl) (ox hw 132 rfl) (by decide) (by decide)) q68a q68b q68c (g := (mkF m 11 #[vR a1, vR it_23, vR x1] [(.ref it_23)])) rfl (by rw [hml]; rfl) (Steps.refl _) (argsL := []) (rest := []) (lenOf pd_15 rfl) rfl own_le0 (hb hby d15_11) (fun _ _ => ⟨rfl, e51, (by decide : 1 + 0 ≤ _), (by decide : 4 + 0 ≤ _)⟩)
    dsimp only [Pt.U, Pt.locs, Pt.cells, Pt.slots] at X67 l67 y67 z67 st67 hQ67
    subst l67 y67 z67
    obtain ⟨rfl, Nq67, eq67⟩ := hQ67
    have N70 := Fr.app N50 Nq67
    have q71 := fun t (kt : Go p e below T67 (mkF m 50 #[vR a1, vR it_23, vR x1] []) t) => q66 t (st67.trans (by
      show Go _ _ _ _ (mkF m 16 #[vR a1, vR it_23, vR x1] [(.int 0)]) _
      refine XS.ifYes X67.here hx rfl (pc0 := 16) (pc' := 50) rfl (hb hby d15_16) rfl ((if0 _ _).trans (teq (rfl : (0 : Int32) = (0 : Int32))).1) (by decide) (by decide) ?_
      exact kt))
    obtain ⟨_, _, ⟨T72, L72, k72, n72⟩, -, X72, ⟨_, hQ72, l72, y72, z72⟩, st72⟩ := Jvm.LawKit.callS X67 hx (y := ym50) hown (ow hZ hw 164 rfl) (ow hZ hw 165 rfl) (ow hZ hw 166 rfl) (ow hZ hw 167 rfl) (by decide) (backOf (W := 0) (rm20 l Z a0 hw [] cx  T38.heap n0 O41 ) hZ (ox hw 167 rfl) (ox hw 166 rfl) (by decide) (by decide)) (g := (mkF m 50 #[vR a1, vR it_23, vR x1] [])) rfl (by rw [hml]; rfl) (argsL := []) (rest := []) (lenOf pd_25 rfl) rfl own_le0 (hb hby d15_50) (fun _ _ => ⟨rfl, eq67, (by decide : 1 + 0 ≤ _), (by decide : 4 + 0 ≤ _)⟩)
    dsimp only [Pt.U, Pt.locs, Pt.cells, Pt.slots] at X72 l72 y72 z72 st72 hQ72
    subst l72 y72 z72
    obtain ⟨rfl, Nq72, eq72⟩ := hQ72
    have N73 := Fr.app N70 Nq72
    have q74 := fun t (kt : Go p e below T72 (mkF m 53 #[vR a1, vR it_23, vR x1] [(.ref (cw 18))]) t) => q71 t (st72 t kt)
    exact ⟨some (.ref (cw 18)), T72, _, _, _, _, X72, by decide, by decide, nofun, q74, fun fs hr => retOut X72 hx hret rfl (o4 ⟨rfl, rfl, rfl⟩) (hb hby d15_53) hr, by rw [eq72]; exact ⟨(cw 18), rfl, N73, K42, (cx.2.2.2.2.2.2.2.2.2.2.2.2.2.2.2.2.2.2.2.2.2.2.2.2.2.2.2.2.2.2.2.2.2.2.2.2.1.ext O41.2), (by have z := (cx.2.2.2.2.2.2.2.2.2.2.2.2.2.2.2.2.2.2.2.2.2.2.2.2.2.2.2.2.2.2.2.2.2.2.2.2.2.1.ext O41.2); rw [show Value.null = (own_find (cw 1) [(s1, t1)]) from by simp [own_find, hc53]] at z; exact z)⟩⟩
def Q_rm15_2 (Z : State) (a1 : Addr) (a2 : Addr) (x1 : Addr) (x2 : Addr) (s1 : Addr) (s2 : Addr) (t1 : Addr) (t2 : Addr) (cw : Nat → Nat) (z_cs : Int32) (h0 : Heap) (n0 : Nat) (v : Option Value) (h : Heap) (L : List Loc) : Prop := ∃ (b : Addr), v = some (.ref b) ∧ Fr n0 L ∧ Keep h0 h [] ∧ Exa Z h b sk24 ∧ Fld Z h b sk24 "value" sk3 (own_find (cw 1) [(s1, t1), (s2, t2)])
theorem rm15_2 (l : Launch) (Z : State) (a0 : Array Value) (hw : ∀ d ∈ tables_1, d.before a0 Z = true) (ws : List Jvm.Cond) {cw : Nat → Nat} {z_cs : Int32} (cx : Cx Z cw z_cs) (a1 : Addr) (a2 : Addr) (x1 : Addr) (x2 : Addr) (s1 : Addr) (s2 : Addr) (t1 : Addr) (t2 : Addr) (h0 : Heap) (n0 : Nat) (O0 : Old Z n0 h0) (G0 : Fld Z h0 a1 sk8 "outcomes" sk5 (.ref a2)) (G1 : Exa Z h0 a2 sk19) (G2 : Fld Z h0 a2 sk19 "e0" sk3 (.ref x1)) (G3 : Fld Z h0 a2 sk19 "e1" sk3 (.ref x2)) (G4 : Exa Z h0 x1 sk9) (G5 : Fld Z h0 x1 sk9 "step" sk1 (.ref t1)) (G6 : Fld Z h0 x1 sk9 "status" sk2 (.ref s1)) (G7 : Exa Z h0 x2 sk9) (G8 : Fld Z h0 x2 sk9 "step" sk1 (.ref t2)) (G9 : Fld Z h0 x2 sk9 "status" sk2 (.ref s2)) (g_x1 : n0 ≤ x1) (g_x2 : n0 ≤ x2) :
    OwnMet l ym54 (Jvm.Cond.code ym54 prog_13_method_2_code 3 (some (.object sk24)) :: ws) (own_R 3 2 5 39) #[(.ref a1)] Z h0 (Q_rm15_2 Z a1 a2 x1 x2 s1 s2 t1 t2 cw z_cs h0 n0) := by
  refine own_body (plainFor_of_name pn_15) hisR fun p e s m below meth c s₁ hx hby hml hown hnm hret hZ X0 e0 => ?_
  have N0 := Fr.nil n0
  have K0 : Keep h0 h0 [] := Keep.refl _ _
  have pre0 : ∀ t, Go p e below s₁ (mkF m 0 #[vR a1, vU, vU] []) t → Go p e below s₁ (entryFrame m #[(.ref a1)] 3) t := fun t k => castTop (ef_15_R m a1) k
  have q21 := fun t (kt : Go p e below s₁ (mkF m 1 #[vR a1, vU, vU] [(.ref a1)]) t) => pre0 t (by
    show Go _ _ _ _ (mkF m 0 #[vR a1, vU, vU] []) _
    refine XS.aloadN X0.here hx rfl (hb hby d15_0) rfl rfl ?_
    exact kt)
  obtain ⟨T22, X22, e22, st22⟩ := getF X0 hx hZ hown (host := "") (Or.inl (ox hw 111 rfl)) Via.refl e0 G0 (g := (mkF m 1 #[vR a1, vU, vU] [(.ref a1)])) rfl rfl (hb hby d15_1)
  obtain ⟨cq24, kq24, q24a, q24b, q24c⟩ := isOf hZ e22 G1
  obtain ⟨_, _, ⟨T23, L23, k23, n23⟩, -, X23, ⟨_, hQ23, l23, y23, z23⟩, st23⟩ := X22.interfaceBack hx (xi := ym55) (y := ym39) hown (ow hZ hw 120 rfl) (ow hZ hw 121 rfl) (ow hZ hw 122 rfl) (ow hZ hw 371 rfl) (ow hZ hw 124 rfl) (ow hZ hw 125 rfl) (ow hZ hw 372 rfl) (ow hZ hw 373 rfl) (by decide) (backOf (W := 0) (rm16_2 l Z a0 hw [] cx a2 x1 x2 h0 n0 O0 G1 G2 G3 g_x2) hZ (ox hw 129 rfl) (ox hw 128 rfl) (by decide) (by decide)) q24a q24b q24c (g := (mkF m 4 #[vR a1, vU, vU] [(.ref a2)])) rfl (by rw [hml]; rfl) (Steps.refl _) (argsL := []) (rest := []) (lenOf pd_24 rfl) rfl own_le0 (hb hby d15_4) (fun _ _ => ⟨rfl, e22, (by decide : 0 + 1 ≤ _), (by decide : 0 + 4 ≤ _)⟩)
  dsimp only [Pt.U, Pt.locs, Pt.cells, Pt.slots] at X23 l23 y23 z23 st23 hQ23
  subst l23 y23 z23
  obtain ⟨it_23, rfl, Nq23, Kq23, fr23_0, fq23_0, fq23_1, fq23_2, fq23_3⟩ := hQ23
  have N25 := Fr.app N0 Nq23
  have gg26 : n0 ≤ it_23 := Nat.le_trans (O0.1 ▸ O0.2.1) fr23_0
  have sz27 : h0.size ≤ it_23 := Nat.le_trans K0.1 fr23_0
  have O28 := O0.keep Kq23 all0
  have K29 := K0.trans Kq23 all0
  have q30 := fun t (kt : Go p e below T23 (mkF m 11 #[vR a1, vR it_23, vU] [(.ref it_23)]) t) => q21 t (st22 t (st23.trans (by
    show Go _ _ _ _ (mkF m 9 #[vR a1, vU, vU] [(.ref it_23)]) _
    refine XS.astoreN X23.here hx rfl (hb hby d15_9) rfl rfl (l' := #[vR a1, vR it_23, vU]) rfl ?_
    show Go _ _ _ _ (mkF m 10 #[vR a1, vR it_23, vU] []) _
    refine XS.aloadN X23.here hx rfl (hb hby d15_10) rfl rfl ?_
    exact kt)))
  obtain ⟨cq32, kq32, q32a, q32b, q32c⟩ := isOf hZ rfl fq23_0
  obtain ⟨_, _, ⟨T31, L31, k31, n31⟩, -, X31, ⟨_, hQ31, l31, y31, z31⟩, st31⟩ := X23.interfaceBack hx (xi := ym56) (y := ym41) hown (ow hZ hw 155 rfl) (ow hZ hw 156 rfl) (ow hZ hw 157 rfl) (ow hZ hw 158 rfl) (ow hZ hw 159 rfl) (ow hZ hw 160 rfl) (ow hZ hw 161 rfl) (ow hZ hw 162 rfl) (by decide) (backOf (W := 0) (rm19Y l Z a0 hw [] cx it_23 (0 : Int32) (2 : Int32) T23.heap n0 O28 fq23_3 fq23_2 (by decide : ¬ ((0 : Int32) = (2 : Int32)))) hZ (ox hw 163 rfl) (ox hw 132 rfl) (by decide) (by decide)) q32a q32b q32c (g := (mkF m 11 #[vR a1, vR it_23, vU] [(.ref it_23)])) rfl (by rw [hml]; rfl) (Steps.refl _) (argsL := []) (rest := []) (lenOf pd_15 rfl) rfl own_le0 (hb hby d15_11) (fun _ _ => ⟨rfl, rfl, (by decide : 1 + 0 ≤ _), (by decide : 4 + 0 ≤ _)⟩)
  dsimp only [Pt.U, Pt.locs, Pt.cells, Pt.slots] at X31 l31 y31 z31 st31 hQ31
  subst l31 y31 z31
  obtain ⟨rfl, Nq31, eq31⟩ := hQ31
  have N33 := Fr.app N25 Nq31
  have f34 := (G1.keep Kq23)
  have f35 := (G2.keep Kq23 nin0)
  have f36 := (G3.keep Kq23 nin0)
  have q37 := fun t (kt : Go p e below T31 (mkF m 20 #[vR a1, vR it_23, vU] [(.ref it_23)]) t) => q30 t (st31.trans (by
    show Go _ _ _ _ (mkF m 16 #[vR a1, vR it_23, vU] [(.int 1)]) _
    refine XS.ifNo X31.here hx rfl (hb hby d15_16) rfl ((if0 _ _).trans (feq (by decide : ¬ ((1 : Int32) = (0 : Int32)))).1) ?_
    show Go _ _ _ _ (mkF m 19 _ []) _
    refine XS.aloadN X31.here hx rfl (hb hby d15_19) rfl rfl ?_
    exact kt))
  obtain ⟨cq39, kq39, q39a, q39b, q39c⟩ := isOf hZ eq31 fq23_0
  obtain ⟨_, _, ⟨T38, L38, k38, n38⟩, -, X38, ⟨_, hQ38, l38, y38, z38⟩, st38⟩ := X31.interfaceBack hx (xi := ym57) (y := ym44) hown (ow hZ hw 311 rfl) (ow hZ hw 312 rfl) (ow hZ hw 313 rfl) (ow hZ hw 314 rfl) (ow hZ hw 315 rfl) (ow hZ hw 316 rfl) (ow hZ hw 317 rfl) (ow hZ hw 162 rfl) (by decide) (backOfWith (W := 0) (rm42_20 l Z a0 hw [] cx it_23 a2 x1 x2 T23.heap n0 O28 fq23_0 fq23_1 fq23_2 fq23_3 f34 f35 f36 gg26 g_x2) hZ (ox hw 318 rfl) (ox hw 132 rfl) (by decide) (by decide)) q39a q39b q39c (g := (mkF m 20 #[vR a1, vR it_23, vU] [(.ref it_23)])) rfl (by rw [hml]; rfl) (Steps.refl _) (argsL := []) (rest := []) (lenOf pd_26 rfl) rfl own_le0 (hb hby d15_20) (fun _ _ => ⟨rfl, eq31, (by decide : 1 + 0 ≤ _), (by decide : 4 + 0 ≤ _)⟩)
  dsimp only [Pt.U, Pt.locs, Pt.cells, Pt.slots] at X38 l38 y38 z38 st38 hQ38
  subst l38 y38 z38
  obtain ⟨rfl, Nq38, Kq38, fq38_0, fq38_1, fq38_2⟩ := hQ38
  have N40 := Fr.app N33 Nq38
  have O41 := O28.keep Kq38 (allS gg26 all0)
  have K42 := K29.trans Kq38 (allS (Or.inr sz27) all0)
  have f43 := ((G4.keep Kq23).keep Kq38)
  obtain ⟨T44, X44, e44, st44⟩ := castY X38 hx hZ hown (ox hw 327 rfl) rfl (Ins.self f43) (g := (mkF m 25 #[vR a1, vR it_23, vU] [(.ref x1)])) rfl rfl (hb hby d15_25)
  have ne45 : x1 ≠ it_23 := (Nat.ne_of_lt (Nat.lt_of_lt_of_le G4.lt fr23_0))
  have f46 := ((G6.keep Kq23 nin0).keep Kq38 (ninS ne45 nin0))
  have q47 := fun t (kt : Go p e below T44 (mkF m 30 #[vR a1, vR it_23, vR x1] [(.ref x1)]) t) => q37 t (st38.trans (st44 t (by
    show Go _ _ _ _ (mkF m 28 #[vR a1, vR it_23, vU] [(.ref x1)]) _
    refine XS.astoreN X44.here hx rfl (hb hby d15_28) rfl rfl (l' := #[vR a1, vR it_23, vR x1]) rfl ?_
    show Go _ _ _ _ (mkF m 29 #[vR a1, vR it_23, vR x1] []) _
    refine XS.aloadN X44.here hx rfl (hb hby d15_29) rfl rfl ?_
    exact kt)))
  obtain ⟨cq49, kq49, q49a, q49b, q49c⟩ := isOf hZ e44 f43
  obtain ⟨_, _, ⟨T48, L48, k48, n48⟩, -, X48, ⟨_, hQ48, l48, y48, z48⟩, st48⟩ := X44.virtualBack hx (y := ym46) (z := ym46) hown (ow hZ hw 329 rfl) (ow hZ hw 330 rfl) (notFace_of_selects (args := #[]) (ow hZ hw 332 rfl)) (ow hZ hw 332 rfl) (ow hZ hw 331 rfl) (by decide) (backOf (W := 0) (rm44 l Z a0 hw [] cx x1 s1 T38.heap n0 O41 f46) hZ (ox hw 333 rfl) (ox hw 23 rfl) (by decide) (by decide)) q49a q49c (g := (mkF m 30 #[vR a1, vR it_23, vR x1] [(.ref x1)])) rfl (by rw [hml]; rfl) (Steps.refl _) (argsL := []) (rest := []) (lenOf pd_27 rfl) rfl own_le0 (hb hby d15_30) (fun _ _ => ⟨rfl, e44, (by decide : 1 + 0 ≤ _), (by decide : 4 + 0 ≤ _)⟩)
  dsimp only [Pt.U, Pt.locs, Pt.cells, Pt.slots] at X48 l48 y48 z48 st48 hQ48
  subst l48 y48 z48
  obtain ⟨rfl, Nq48, eq48⟩ := hQ48
  have N50 := Fr.app N40 Nq48
  obtain ⟨T51, X51, e51, st51⟩ := getS2 X48 hx hZ hown (host := "") (Or.inl (ox hw 334 rfl)) Via.refl eq48 (cx.2.2.1.ext O41.2) (g := (mkF m 33 #[vR a1, vR it_23, vR x1] [(.ref s1)])) rfl (hb hby d15_33)
  have q52 := fun t (kt : Go p e below T51 (mkF m 36 #[vR a1, vR it_23, vR x1] [(.ref (cw 1)), (.ref s1)]) t) => q47 t (st48.trans (st51 t kt))
  by_cases hc53 : s1 = (cw 1)
  · have f54 := ((G5.keep Kq23 nin0).keep Kq38 (ninS ne45 nin0))
    have q55 := fun t (kt : Go p e below T51 (mkF m 40 #[vR a1, vR it_23, vR x1] [(.ref x1)]) t) => q52 t (by
      show Go _ _ _ _ (mkF m 36 #[vR a1, vR it_23, vR x1] [(.ref (cw 1)), (.ref s1)]) _
      refine Jvm.RoadKit.acmp (g := (mkF m 36 #[vR a1, vR it_23, vR x1] [(.ref (cw 1)), (.ref s1)])) X51 hx rfl rfl rfl (pc0 := 36) (pc' := 39) (same := true) rfl (hb hby d15_36) rfl (decide_eq_true (congrArg Value.ref hc53)) (by decide) (by decide) ?_
      show Go _ _ _ _ (mkF m 39 _ []) _
      refine XS.aloadN X51.here hx rfl (hb hby d15_39) rfl rfl ?_
      exact kt)
    obtain ⟨cq57, kq57, q57a, q57b, q57c⟩ := isOf hZ e51 f43
    obtain ⟨_, _, ⟨T56, L56, k56, n56⟩, -, X56, ⟨_, hQ56, l56, y56, z56⟩, st56⟩ := X51.virtualBack hx (y := ym47) (z := ym47) hown (ow hZ hw 342 rfl) (ow hZ hw 343 rfl) (notFace_of_selects (args := #[]) (ow hZ hw 345 rfl)) (ow hZ hw 345 rfl) (ow hZ hw 344 rfl) (by decide) (backOf (W := 0) (rm45 l Z a0 hw [] cx x1 t1 T38.heap n0 O41 f54) hZ (ox hw 346 rfl) (ox hw 23 rfl) (by decide) (by decide)) q57a q57c (g := (mkF m 40 #[vR a1, vR it_23, vR x1] [(.ref x1)])) rfl (by rw [hml]; rfl) (Steps.refl _) (argsL := []) (rest := []) (lenOf pd_28 rfl) rfl own_le0 (hb hby d15_40) (fun _ _ => ⟨rfl, e51, (by decide : 1 + 0 ≤ _), (by decide : 4 + 0 ≤ _)⟩)
    dsimp only [Pt.U, Pt.locs, Pt.cells, Pt.slots] at X56 l56 y56 z56 st56 hQ56
    subst l56 y56 z56
    obtain ⟨rfl, Nq56, eq56⟩ := hQ56
    have N58 := Fr.app N50 Nq56
    obtain ⟨_, _, ⟨T59, L59, k59, n59⟩, -, X59, ⟨_, hQ59, l59, y59, z59⟩, st59⟩ := Jvm.LawKit.callS X56 hx (y := ym49) hown (ow hZ hw 347 rfl) (ow hZ hw 348 rfl) (ow hZ hw 166 rfl) (ow hZ hw 349 rfl) (by decide) (backOf (W := 0) (rm46 l Z a0 hw [] cx t1 T38.heap n0 O41 ) hZ (ox hw 349 rfl) (ox hw 166 rfl) (by decide) (by decide)) (g := (mkF m 43 #[vR a1, vR it_23, vR x1] [(.ref t1)])) rfl (by rw [hml]; rfl) (argsL := [(.ref t1)]) (rest := []) (lenOf pd_29 rfl) rfl own_le0 (hb hby d15_43) (fun _ _ => ⟨rfl, eq56, (by decide : 1 + 1 ≤ _), (by decide : 4 + 1 ≤ _)⟩)
    dsimp only [Pt.U, Pt.locs, Pt.cells, Pt.slots] at X59 l59 y59 z59 st59 hQ59
    subst l59 y59 z59
    obtain ⟨b_59, rfl, Nq59, Kq59, fr59_0, fq59_0, fq59_1⟩ := hQ59
    have N60 := Fr.app N58 Nq59
    have gg61 : n0 ≤ b_59 := Nat.le_trans (O41.1 ▸ O41.2.1) fr59_0
    have sz62 : h0.size ≤ b_59 := Nat.le_trans K42.1 fr59_0
    have O63 := O41.keep Kq59 all0
    have K64 := K42.trans Kq59 all0
    have q65 := fun t (kt : Go p e below T59 (mkF m 46 #[vR a1, vR it_23, vR x1] [(.ref b_59)]) t) => q55 t (st56.trans (st59 t kt))
    exact ⟨some (.ref b_59), T59, _, _, _, _, X59, by decide, by decide, nofun, q65, fun fs hr => retOut X59 hx hret rfl (o4 ⟨rfl, rfl, rfl⟩) (hb hby d15_46) hr, ⟨b_59, rfl, N60, K64, fq59_0, (by have z := fq59_1; rw [show (Value.ref t1) = (own_find (cw 1) [(s1, t1), (s2, t2)]) from by simp [own_find, hc53]] at z; exact z)⟩⟩
  · have q66 := fun t (kt : Go p e below T51 (mkF m 11 #[vR a1, vR it_23, vR x1] [(.ref it_23)]) t) => q52 t (by
      show Go _ _ _ _ (mkF m 36 #[vR a1, vR it_23, vR x1] [(.ref (cw 1)), (.ref s1)]) _
      refine Jvm.RoadKit.acmp (g := (mkF m 36 #[vR a1, vR it_23, vR x1] [(.ref (cw 1)), (.ref s1)])) X51 hx rfl rfl rfl (pc0 := 36) (pc' := 47) (same := false) rfl (hb hby d15_36) rfl (decide_eq_false (fun q => hc53 (Value.ref.inj q))) (by decide) (by decide) ?_
      show Go _ _ _ _ (mkF m 47 _ []) _
      refine XS.goto X51.here hx rfl (pc0 := 47) (pc' := 10) rfl (hb hby d15_47) (by decide) (by decide) ?_
      show Go _ _ _ _ (mkF m 10 _ []) _
      refine XS.aloadN X51.here hx rfl (hb hby d15_10) rfl rfl ?_
      exact kt)
    have f69 := (fq23_0.keep Kq38)
    obtain ⟨cq68, kq68, q68a, q68b, q68c⟩ := isOf hZ e51 f69
    obtain ⟨_, _, ⟨T67, L67, k67, n67⟩, -, X67, ⟨_, hQ67, l67, y67, z67⟩, st67⟩ := X51.interfaceBack hx (xi := ym56) (y := ym41) hown (ow hZ hw 155 rfl) (ow hZ hw 156 rfl) (ow hZ hw 157 rfl) (ow hZ hw 158 rfl) (ow hZ hw 159 rfl) (ow hZ hw 160 rfl) (ow hZ hw 161 rfl) (ow hZ hw 162 rfl) (by decide) (backOf (W := 0) (rm19Y l Z a0 hw [] cx it_23 (1 : Int32) (2 : Int32) T38.heap n0 O41 fq38_2 fq38_1 (by decide : ¬ ((1 : Int32) = (2 : Int32)))) hZ (ox hw 163 rfl) (ox hw 132 rfl) (by decide) (by decide)) q68a q68b q68c (g := (mkF m 11 #[vR a1, vR it_23, vR x1] [(.ref it_23)])) rfl (by rw [hml]; rfl) (Steps.refl _) (argsL := []) (rest := []) (lenOf pd_15 rfl) rfl own_le0 (hb hby d15_11) (fun _ _ => ⟨rfl, e51, (by decide : 1 + 0 ≤ _), (by decide : 4 + 0 ≤ _)⟩)
    dsimp only [Pt.U, Pt.locs, Pt.cells, Pt.slots] at X67 l67 y67 z67 st67 hQ67
    subst l67 y67 z67
    obtain ⟨rfl, Nq67, eq67⟩ := hQ67
    have N70 := Fr.app N50 Nq67
    have f71 := (f34.keep Kq38)
    have ne72 : a2 ≠ it_23 := (Nat.ne_of_lt (Nat.lt_of_lt_of_le G1.lt fr23_0))
    have f73 := (f35.keep Kq38 (ninS ne72 nin0))
    have f74 := (f36.keep Kq38 (ninS ne72 nin0))
    have q75 := fun t (kt : Go p e below T67 (mkF m 20 #[vR a1, vR it_23, vR x1] [(.ref it_23)]) t) => q66 t (st67.trans (by
      show Go _ _ _ _ (mkF m 16 #[vR a1, vR it_23, vR x1] [(.int 1)]) _
      refine XS.ifNo X67.here hx rfl (hb hby d15_16) rfl ((if0 _ _).trans (feq (by decide : ¬ ((1 : Int32) = (0 : Int32)))).1) ?_
      show Go _ _ _ _ (mkF m 19 _ []) _
      refine XS.aloadN X67.here hx rfl (hb hby d15_19) rfl rfl ?_
      exact kt))
    obtain ⟨cq77, kq77, q77a, q77b, q77c⟩ := isOf hZ eq67 f69
    obtain ⟨_, _, ⟨T76, L76, k76, n76⟩, -, X76, ⟨_, hQ76, l76, y76, z76⟩, st76⟩ := X67.interfaceBack hx (xi := ym57) (y := ym44) hown (ow hZ hw 311 rfl) (ow hZ hw 312 rfl) (ow hZ hw 313 rfl) (ow hZ hw 314 rfl) (ow hZ hw 315 rfl) (ow hZ hw 316 rfl) (ow hZ hw 317 rfl) (ow hZ hw 162 rfl) (by decide) (backOfWith (W := 0) (rm42_21 l Z a0 hw [] cx it_23 a2 x1 x2 T38.heap n0 O41 f69 fq38_0 fq38_1 fq38_2 f71 f73 f74 gg26 g_x2) hZ (ox hw 318 rfl) (ox hw 132 rfl) (by decide) (by decide)) q77a q77b q77c (g := (mkF m 20 #[vR a1, vR it_23, vR x1] [(.ref it_23)])) rfl (by rw [hml]; rfl) (Steps.refl _) (argsL := []) (rest := []) (lenOf pd_26 rfl) rfl own_le0 (hb hby d15_20) (fun _ _ => ⟨rfl, eq67, (by decide : 1 + 0 ≤ _), (by decide : 4 + 0 ≤ _)⟩)
    dsimp only [Pt.U, Pt.locs, Pt.cells, Pt.slots] at X76 l76 y76 z76 st76 hQ76
    subst l76 y76 z76
    obtain ⟨rfl, Nq76, Kq76, fq76_0, fq76_1, fq76_2⟩ := hQ76
    have N78 := Fr.app N70 Nq76
    have O79 := O41.keep Kq76 (allS gg26 all0)
    have K80 := K42.trans Kq76 (allS (Or.inr sz27) all0)
    have f81 := (((G7.keep Kq23).keep Kq38).keep Kq76)
    obtain ⟨T82, X82, e82, st82⟩ := castY X76 hx hZ hown (ox hw 327 rfl) rfl (Ins.self f81) (g := (mkF m 25 #[vR a1, vR it_23, vR x1] [(.ref x2)])) rfl rfl (hb hby d15_25)
    have ne83 : x2 ≠ it_23 := (Nat.ne_of_lt (Nat.lt_of_lt_of_le G7.lt fr23_0))
    have f84 := (((G9.keep Kq23 nin0).keep Kq38 (ninS ne83 nin0)).keep Kq76 (ninS ne83 nin0))
    have q85 := fun t (kt : Go p e below T82 (mkF m 30 #[vR a1, vR it_23, vR x2] [(.ref x2)]) t) => q75 t (st76.trans (st82 t (by
      show Go _ _ _ _ (mkF m 28 #[vR a1, vR it_23, vR x1] [(.ref x2)]) _
      refine XS.astoreN X82.here hx rfl (hb hby d15_28) rfl rfl (l' := #[vR a1, vR it_23, vR x2]) rfl ?_
      show Go _ _ _ _ (mkF m 29 #[vR a1, vR it_23, vR x2] []) _
      refine XS.aloadN X82.here hx rfl (hb hby d15_29) rfl rfl ?_
      exact kt)))
    obtain ⟨cq87, kq87, q87a, q87b, q87c⟩ := isOf hZ e82 f81
    obtain ⟨_, _, ⟨T86, L86, k86, n86⟩, -, X86, ⟨_, hQ86, l86, y86, z86⟩, st86⟩ := X82.virtualBack hx (y := ym46) (z := ym46) hown (ow hZ hw 329 rfl) (ow hZ hw 330 rfl) (notFace_of_selects (args := #[]) (ow hZ hw 332 rfl)) (ow hZ hw 332 rfl) (ow hZ hw 331 rfl) (by decide) (backOf (W := 0) (rm44 l Z a0 hw [] cx x2 s2 T76.heap n0 O79 f84) hZ (ox hw 333 rfl) (ox hw 23 rfl) (by decide) (by decide)) q87a q87c (g := (mkF m 30 #[vR a1, vR it_23, vR x2] [(.ref x2)])) rfl (by rw [hml]; rfl) (Steps.refl _) (argsL := []) (rest := []) (lenOf pd_27 rfl) rfl own_le0 (hb hby d15_30) (fun _ _ => ⟨rfl, e82, (by decide : 1 + 0 ≤ _), (by decide : 4 + 0 ≤ _)⟩)
    dsimp only [Pt.U, Pt.locs, Pt.cells, Pt.slots] at X86 l86 y86 z86 st86 hQ86
    subst l86 y86 z86
    obtain ⟨rfl, Nq86, eq86⟩ := hQ86
    have N88 := Fr.app N78 Nq86
    obtain ⟨T89, X89, e89, st89⟩ := getS2 X86 hx hZ hown (host := "") (Or.inl (ox hw 334 rfl)) Via.refl eq86 (cx.2.2.1.ext O79.2) (g := (mkF m 33 #[vR a1, vR it_23, vR x2] [(.ref s2)])) rfl (hb hby d15_33)
    have q90 := fun t (kt : Go p e below T89 (mkF m 36 #[vR a1, vR it_23, vR x2] [(.ref (cw 1)), (.ref s2)]) t) => q85 t (st86.trans (st89 t kt))
    by_cases hc91 : s2 = (cw 1)
    · have f92 := (((G8.keep Kq23 nin0).keep Kq38 (ninS ne83 nin0)).keep Kq76 (ninS ne83 nin0))
      have q93 := fun t (kt : Go p e below T89 (mkF m 40 #[vR a1, vR it_23, vR x2] [(.ref x2)]) t) => q90 t (by
        show Go _ _ _ _ (mkF m 36 #[vR a1, vR it_23, vR x2] [(.ref (cw 1)), (.ref s2)]) _
        refine Jvm.RoadKit.acmp (g := (mkF m 36 #[vR a1, vR it_23, vR x2] [(.ref (cw 1)), (.ref s2)])) X89 hx rfl rfl rfl (pc0 := 36) (pc' := 39) (same := true) rfl (hb hby d15_36) rfl (decide_eq_true (congrArg Value.ref hc91)) (by decide) (by decide) ?_
        show Go _ _ _ _ (mkF m 39 _ []) _
        refine XS.aloadN X89.here hx rfl (hb hby d15_39) rfl rfl ?_
        exact kt)
      obtain ⟨cq95, kq95, q95a, q95b, q95c⟩ := isOf hZ e89 f81
      obtain ⟨_, _, ⟨T94, L94, k94, n94⟩, -, X94, ⟨_, hQ94, l94, y94, z94⟩, st94⟩ := X89.virtualBack hx (y := ym47) (z := ym47) hown (ow hZ hw 342 rfl) (ow hZ hw 343 rfl) (notFace_of_selects (args := #[]) (ow hZ hw 345 rfl)) (ow hZ hw 345 rfl) (ow hZ hw 344 rfl) (by decide) (backOf (W := 0) (rm45 l Z a0 hw [] cx x2 t2 T76.heap n0 O79 f92) hZ (ox hw 346 rfl) (ox hw 23 rfl) (by decide) (by decide)) q95a q95c (g := (mkF m 40 #[vR a1, vR it_23, vR x2] [(.ref x2)])) rfl (by rw [hml]; rfl) (Steps.refl _) (argsL := []) (rest := []) (lenOf pd_28 rfl) rfl own_le0 (hb hby d15_40) (fun _ _ => ⟨rfl, e89, (by decide : 1 + 0 ≤ _), (by decide : 4 + 0 ≤ _)⟩)
      dsimp only [Pt.U, Pt.locs, Pt.cells, Pt.slots] at X94 l94 y94 z94 st94 hQ94
      subst l94 y94 z94
      obtain ⟨rfl, Nq94, eq94⟩ := hQ94
      have N96 := Fr.app N88 Nq94
      obtain ⟨_, _, ⟨T97, L97, k97, n97⟩, -, X97, ⟨_, hQ97, l97, y97, z97⟩, st97⟩ := Jvm.LawKit.callS X94 hx (y := ym49) hown (ow hZ hw 347 rfl) (ow hZ hw 348 rfl) (ow hZ hw 166 rfl) (ow hZ hw 349 rfl) (by decide) (backOf (W := 0) (rm46 l Z a0 hw [] cx t2 T76.heap n0 O79 ) hZ (ox hw 349 rfl) (ox hw 166 rfl) (by decide) (by decide)) (g := (mkF m 43 #[vR a1, vR it_23, vR x2] [(.ref t2)])) rfl (by rw [hml]; rfl) (argsL := [(.ref t2)]) (rest := []) (lenOf pd_29 rfl) rfl own_le0 (hb hby d15_43) (fun _ _ => ⟨rfl, eq94, (by decide : 1 + 1 ≤ _), (by decide : 4 + 1 ≤ _)⟩)
      dsimp only [Pt.U, Pt.locs, Pt.cells, Pt.slots] at X97 l97 y97 z97 st97 hQ97
      subst l97 y97 z97
      obtain ⟨b_97, rfl, Nq97, Kq97, fr97_0, fq97_0, fq97_1⟩ := hQ97
      have N98 := Fr.app N96 Nq97
      have gg99 : n0 ≤ b_97 := Nat.le_trans (O79.1 ▸ O79.2.1) fr97_0
      have sz100 : h0.size ≤ b_97 := Nat.le_trans K80.1 fr97_0
      have O101 := O79.keep Kq97 all0
      have K102 := K80.trans Kq97 all0
      have q103 := fun t (kt : Go p e below T97 (mkF m 46 #[vR a1, vR it_23, vR x2] [(.ref b_97)]) t) => q93 t (st94.trans (st97 t kt))
      exact ⟨some (.ref b_97), T97, _, _, _, _, X97, by decide, by decide, nofun, q103, fun fs hr => retOut X97 hx hret rfl (o4 ⟨rfl, rfl, rfl⟩) (hb hby d15_46) hr, ⟨b_97, rfl, N98, K102, fq97_0, (by have z := fq97_1; rw [show (Value.ref t2) = (own_find (cw 1) [(s1, t1), (s2, t2)]) from by simp [own_find, hc53, hc91]] at z; exact z)⟩⟩
    · have q104 := fun t (kt : Go p e below T89 (mkF m 11 #[vR a1, vR it_23, vR x2] [(.ref it_23)]) t) => q90 t (by
        show Go _ _ _ _ (mkF m 36 #[vR a1, vR it_23, vR x2] [(.ref (cw 1)), (.ref s2)]) _
        refine Jvm.RoadKit.acmp (g := (mkF m 36 #[vR a1, vR it_23, vR x2] [(.ref (cw 1)), (.ref s2)])) X89 hx rfl rfl rfl (pc0 := 36) (pc' := 47) (same := false) rfl (hb hby d15_36) rfl (decide_eq_false (fun q => hc91 (Value.ref.inj q))) (by decide) (by decide) ?_
        show Go _ _ _ _ (mkF m 47 _ []) _
        refine XS.goto X89.here hx rfl (pc0 := 47) (pc' := 10) rfl (hb hby d15_47) (by decide) (by decide) ?_
        show Go _ _ _ _ (mkF m 10 _ []) _
        refine XS.aloadN X89.here hx rfl (hb hby d15_10) rfl rfl ?_
        exact kt)
      have f107 := (f69.keep Kq76)
      obtain ⟨cq106, kq106, q106a, q106b, q106c⟩ := isOf hZ e89 f107
      obtain ⟨_, _, ⟨T105, L105, k105, n105⟩, -, X105, ⟨_, hQ105, l105, y105, z105⟩, st105⟩ := X89.interfaceBack hx (xi := ym56) (y := ym41) hown (ow hZ hw 155 rfl) (ow hZ hw 156 rfl) (ow hZ hw 157 rfl) (ow hZ hw 158 rfl) (ow hZ hw 159 rfl) (ow hZ hw 160 rfl) (ow hZ hw 161 rfl) (ow hZ hw 162 rfl) (by decide) (backOf (W := 0) (rm19N l Z a0 hw [] cx it_23 (2 : Int32) (2 : Int32) T76.heap n0 O79 fq76_2 fq76_1 (rfl : (2 : Int32) = (2 : Int32))) hZ (ox hw 163 rfl) (ox hw 132 rfl) (by decide) (by decide)) q106a q106b q106c (g := (mkF m 11 #[vR a1, vR it_23, vR x2] [(.ref it_23)])) rfl (by rw [hml]; rfl) (Steps.refl _) (argsL := []) (rest := []) (lenOf pd_15 rfl) rfl own_le0 (hb hby d15_11) (fun _ _ => ⟨rfl, e89, (by decide : 1 + 0 ≤ _), (by decide : 4 + 0 ≤ _)⟩)
      dsimp only [Pt.U, Pt.locs, Pt.cells, Pt.slots] at X105 l105 y105 z105 st105 hQ105
      subst l105 y105 z105
      obtain ⟨rfl, Nq105, eq105⟩ := hQ105
      have N108 := Fr.app N88 Nq105
      have q109 := fun t (kt : Go p e below T105 (mkF m 50 #[vR a1, vR it_23, vR x2] []) t) => q104 t (st105.trans (by
        show Go _ _ _ _ (mkF m 16 #[vR a1, vR it_23, vR x2] [(.int 0)]) _
        refine XS.ifYes X105.here hx rfl (pc0 := 16) (pc' := 50) rfl (hb hby d15_16) rfl ((if0 _ _).trans (teq (rfl : (0 : Int32) = (0 : Int32))).1) (by decide) (by decide) ?_
        exact kt))
      obtain ⟨_, _, ⟨T110, L110, k110, n110⟩, -, X110, ⟨_, hQ110, l110, y110, z110⟩, st110⟩ := Jvm.LawKit.callS X105 hx (y := ym50) hown (ow hZ hw 164 rfl) (ow hZ hw 165 rfl) (ow hZ hw 166 rfl) (ow hZ hw 167 rfl) (by decide) (backOf (W := 0) (rm20 l Z a0 hw [] cx  T76.heap n0 O79 ) hZ (ox hw 167 rfl) (ox hw 166 rfl) (by decide) (by decide)) (g := (mkF m 50 #[vR a1, vR it_23, vR x2] [])) rfl (by rw [hml]; rfl) (argsL := []) (rest := []) (lenOf pd_25 rfl) rfl own_le0 (hb hby d15_50) (fun _ _ => ⟨rfl, eq105, (by decide : 1 + 0 ≤ _), (by decide : 4 + 0 ≤ _)⟩)
      dsimp only [Pt.U, Pt.locs, Pt.cells, Pt.slots] at X110 l110 y110 z110 st110 hQ110
      subst l110 y110 z110
      obtain ⟨rfl, Nq110, eq110⟩ := hQ110
      have N111 := Fr.app N108 Nq110
      have q112 := fun t (kt : Go p e below T110 (mkF m 53 #[vR a1, vR it_23, vR x2] [(.ref (cw 18))]) t) => q109 t (st110 t kt)
      exact ⟨some (.ref (cw 18)), T110, _, _, _, _, X110, by decide, by decide, nofun, q112, fun fs hr => retOut X110 hx hret rfl (o4 ⟨rfl, rfl, rfl⟩) (hb hby d15_53) hr, by rw [eq110]; exact ⟨(cw 18), rfl, N111, K80, (cx.2.2.2.2.2.2.2.2.2.2.2.2.2.2.2.2.2.2.2.2.2.2.2.2.2.2.2.2.2.2.2.2.2.2.2.2.1.ext O79.2), (by have z := (cx.2.2.2.2.2.2.2.2.2.2.2.2.2.2.2.2.2.2.2.2.2.2.2.2.2.2.2.2.2.2.2.2.2.2.2.2.2.1.ext O79.2); rw [show Value.null = (own_find (cw 1) [(s1, t1), (s2, t2)]) from by simp [own_find, hc53, hc91]] at z; exact z)⟩⟩
def Q_rm15_3 (Z : State) (a1 : Addr) (a2 : Addr) (x1 : Addr) (x2 : Addr) (x3 : Addr) (ra : Addr) (kr : ClassId) (s1 : Addr) (s2 : Addr) (s3 : Addr) (t1 : Addr) (t2 : Addr) (t3 : Addr) (cw : Nat → Nat) (z_cs : Int32) (h0 : Heap) (n0 : Nat) (v : Option Value) (h : Heap) (L : List Loc) : Prop := ∃ (b : Addr), v = some (.ref b) ∧ Fr n0 L ∧ Keep h0 h [] ∧ Exa Z h b sk24 ∧ Fld Z h b sk24 "value" sk3 (own_find (cw 1) [(s1, t1), (s2, t2), (s3, t3)])
theorem rm15_3 (l : Launch) (Z : State) (a0 : Array Value) (hw : ∀ d ∈ tables_1, d.before a0 Z = true) (ws : List Jvm.Cond) {cw : Nat → Nat} {z_cs : Int32} (cx : Cx Z cw z_cs) (a1 : Addr) (a2 : Addr) (x1 : Addr) (x2 : Addr) (x3 : Addr) (ra : Addr) (kr : ClassId) (s1 : Addr) (s2 : Addr) (s3 : Addr) (t1 : Addr) (t2 : Addr) (t3 : Addr) (h0 : Heap) (n0 : Nat) (O0 : Old Z n0 h0) (G0 : Fld Z h0 a1 sk8 "outcomes" sk5 (.ref a2)) (G1 : Exa Z h0 a2 sk21) (G2 : Fld Z h0 a2 sk21 "elements" sk6 (.ref ra)) (G3 : Arv Z h0 ra kr (.object sk14) (3 : Int32) [(.ref x1), (.ref x2), (.ref x3)] .null) (G4 : Exa Z h0 x1 sk9) (G5 : Fld Z h0 x1 sk9 "step" sk1 (.ref t1)) (G6 : Fld Z h0 x1 sk9 "status" sk2 (.ref s1)) (G7 : Exa Z h0 x2 sk9) (G8 : Fld Z h0 x2 sk9 "step" sk1 (.ref t2)) (G9 : Fld Z h0 x2 sk9 "status" sk2 (.ref s2)) (G10 : Exa Z h0 x3 sk9) (G11 : Fld Z h0 x3 sk9 "step" sk1 (.ref t3)) (G12 : Fld Z h0 x3 sk9 "status" sk2 (.ref s3)) (g_x1 : n0 ≤ x1) (g_x2 : n0 ≤ x2) (g_x3 : n0 ≤ x3) :
    OwnMet l ym54 (Jvm.Cond.code ym54 prog_13_method_2_code 3 (some (.object sk24)) :: ws) (own_R 3 2 5 39) #[(.ref a1)] Z h0 (Q_rm15_3 Z a1 a2 x1 x2 x3 ra kr s1 s2 s3 t1 t2 t3 cw z_cs h0 n0) := by
  refine own_body (plainFor_of_name pn_15) hisR fun p e s m below meth c s₁ hx hby hml hown hnm hret hZ X0 e0 => ?_
  have N0 := Fr.nil n0
  have K0 : Keep h0 h0 [] := Keep.refl _ _
  have pre0 : ∀ t, Go p e below s₁ (mkF m 0 #[vR a1, vU, vU] []) t → Go p e below s₁ (entryFrame m #[(.ref a1)] 3) t := fun t k => castTop (ef_15_R m a1) k
  have q21 := fun t (kt : Go p e below s₁ (mkF m 1 #[vR a1, vU, vU] [(.ref a1)]) t) => pre0 t (by
    show Go _ _ _ _ (mkF m 0 #[vR a1, vU, vU] []) _
    refine XS.aloadN X0.here hx rfl (hb hby d15_0) rfl rfl ?_
    exact kt)
  obtain ⟨T22, X22, e22, st22⟩ := getF X0 hx hZ hown (host := "") (Or.inl (ox hw 111 rfl)) Via.refl e0 G0 (g := (mkF m 1 #[vR a1, vU, vU] [(.ref a1)])) rfl rfl (hb hby d15_1)
  obtain ⟨cq24, kq24, q24a, q24b, q24c⟩ := isOf hZ e22 G1
  obtain ⟨_, _, ⟨T23, L23, k23, n23⟩, -, X23, ⟨_, hQ23, l23, y23, z23⟩, st23⟩ := X22.interfaceBack hx (xi := ym55) (y := ym39) hown (ow hZ hw 120 rfl) (ow hZ hw 121 rfl) (ow hZ hw 122 rfl) (ow hZ hw 123 rfl) (ow hZ hw 124 rfl) (ow hZ hw 125 rfl) (ow hZ hw 126 rfl) (ow hZ hw 127 rfl) (by decide) (backOf (W := 0) (rm16_3 l Z a0 hw [] cx a2 x1 x2 x3 ra kr h0 n0 O0 G1 G2 G3) hZ (ox hw 129 rfl) (ox hw 128 rfl) (by decide) (by decide)) q24a q24b q24c (g := (mkF m 4 #[vR a1, vU, vU] [(.ref a2)])) rfl (by rw [hml]; rfl) (Steps.refl _) (argsL := []) (rest := []) (lenOf pd_24 rfl) rfl own_le0 (hb hby d15_4) (fun _ _ => ⟨rfl, e22, (by decide : 0 + 1 ≤ _), (by decide : 0 + 4 ≤ _)⟩)
  dsimp only [Pt.U, Pt.locs, Pt.cells, Pt.slots] at X23 l23 y23 z23 st23 hQ23
  subst l23 y23 z23
  obtain ⟨it_23, rfl, Nq23, Kq23, fr23_0, fq23_0, fq23_1, fq23_2, fq23_3⟩ := hQ23
  have N25 := Fr.app N0 Nq23
  have gg26 : n0 ≤ it_23 := Nat.le_trans (O0.1 ▸ O0.2.1) fr23_0
  have sz27 : h0.size ≤ it_23 := Nat.le_trans K0.1 fr23_0
  have O28 := O0.keep Kq23 all0
  have K29 := K0.trans Kq23 all0
  have q30 := fun t (kt : Go p e below T23 (mkF m 11 #[vR a1, vR it_23, vU] [(.ref it_23)]) t) => q21 t (st22 t (st23.trans (by
    show Go _ _ _ _ (mkF m 9 #[vR a1, vU, vU] [(.ref it_23)]) _
    refine XS.astoreN X23.here hx rfl (hb hby d15_9) rfl rfl (l' := #[vR a1, vR it_23, vU]) rfl ?_
    show Go _ _ _ _ (mkF m 10 #[vR a1, vR it_23, vU] []) _
    refine XS.aloadN X23.here hx rfl (hb hby d15_10) rfl rfl ?_
    exact kt)))
  obtain ⟨cq32, kq32, q32a, q32b, q32c⟩ := isOf hZ rfl fq23_0
  obtain ⟨_, _, ⟨T31, L31, k31, n31⟩, -, X31, ⟨_, hQ31, l31, y31, z31⟩, st31⟩ := X23.interfaceBack hx (xi := ym56) (y := ym41) hown (ow hZ hw 155 rfl) (ow hZ hw 156 rfl) (ow hZ hw 157 rfl) (ow hZ hw 158 rfl) (ow hZ hw 159 rfl) (ow hZ hw 160 rfl) (ow hZ hw 161 rfl) (ow hZ hw 162 rfl) (by decide) (backOf (W := 0) (rm19Y l Z a0 hw [] cx it_23 (0 : Int32) (3 : Int32) T23.heap n0 O28 fq23_3 fq23_2 (by decide : ¬ ((0 : Int32) = (3 : Int32)))) hZ (ox hw 163 rfl) (ox hw 132 rfl) (by decide) (by decide)) q32a q32b q32c (g := (mkF m 11 #[vR a1, vR it_23, vU] [(.ref it_23)])) rfl (by rw [hml]; rfl) (Steps.refl _) (argsL := []) (rest := []) (lenOf pd_15 rfl) rfl own_le0 (hb hby d15_11) (fun _ _ => ⟨rfl, rfl, (by decide : 1 + 0 ≤ _), (by decide : 4 + 0 ≤ _)⟩)
  dsimp only [Pt.U, Pt.locs, Pt.cells, Pt.slots] at X31 l31 y31 z31 st31 hQ31
  subst l31 y31 z31
  obtain ⟨rfl, Nq31, eq31⟩ := hQ31
  have N33 := Fr.app N25 Nq31
  have f34 := (G1.keep Kq23)
  have f35 := (G2.keep Kq23 nin0)
  have f36 := (G3.keep Kq23 nin0)
  have q37 := fun t (kt : Go p e below T31 (mkF m 20 #[vR a1, vR it_23, vU] [(.ref it_23)]) t) => q30 t (st31.trans (by
    show Go _ _ _ _ (mkF m 16 #[vR a1, vR it_23, vU] [(.int 1)]) _
    refine XS.ifNo X31.here hx rfl (hb hby d15_16) rfl ((if0 _ _).trans (feq (by decide : ¬ ((1 : Int32) = (0 : Int32)))).1) ?_
    show Go _ _ _ _ (mkF m 19 _ []) _
    refine XS.aloadN X31.here hx rfl (hb hby d15_19) rfl rfl ?_
    exact kt))
  obtain ⟨cq39, kq39, q39a, q39b, q39c⟩ := isOf hZ eq31 fq23_0
  obtain ⟨_, _, ⟨T38, L38, k38, n38⟩, -, X38, ⟨_, hQ38, l38, y38, z38⟩, st38⟩ := X31.interfaceBack hx (xi := ym57) (y := ym44) hown (ow hZ hw 311 rfl) (ow hZ hw 312 rfl) (ow hZ hw 313 rfl) (ow hZ hw 314 rfl) (ow hZ hw 315 rfl) (ow hZ hw 316 rfl) (ow hZ hw 317 rfl) (ow hZ hw 162 rfl) (by decide) (backOfWith (W := 0) (rm42_30 l Z a0 hw [] cx it_23 a2 x1 x2 x3 ra kr T23.heap n0 O28 fq23_0 fq23_1 fq23_2 fq23_3 f34 f35 f36 gg26) hZ (ox hw 318 rfl) (ox hw 132 rfl) (by decide) (by decide)) q39a q39b q39c (g := (mkF m 20 #[vR a1, vR it_23, vU] [(.ref it_23)])) rfl (by rw [hml]; rfl) (Steps.refl _) (argsL := []) (rest := []) (lenOf pd_26 rfl) rfl own_le0 (hb hby d15_20) (fun _ _ => ⟨rfl, eq31, (by decide : 1 + 0 ≤ _), (by decide : 4 + 0 ≤ _)⟩)
  dsimp only [Pt.U, Pt.locs, Pt.cells, Pt.slots] at X38 l38 y38 z38 st38 hQ38
  subst l38 y38 z38
  obtain ⟨rfl, Nq38, Kq38, fq38_0, fq38_1, fq38_2⟩ := hQ38
  have N40 := Fr.app N33 Nq38
  have O41 := O28.keep Kq38 (allS gg26 all0)
  have K42 := K29.trans Kq38 (allS (Or.inr sz27) all0)
  have f43 := ((G4.keep Kq23).keep Kq38)
  obtain ⟨T44, X44, e44, st44⟩ := castY X38 hx hZ hown (ox hw 327 rfl) rfl (Ins.self f43) (g := (mkF m 25 #[vR a1, vR it_23, vU] [(.ref x1)])) rfl rfl (hb hby d15_25)
  have ne45 : x1 ≠ it_23 := (Nat.ne_of_lt (Nat.lt_of_lt_of_le G4.lt fr23_0))
  have f46 := ((G6.keep Kq23 nin0).keep Kq38 (ninS ne45 nin0))
  have q47 := fun t (kt : Go p e below T44 (mkF m 30 #[vR a1, vR it_23, vR x1] [(.ref x1)]) t) => q37 t (st38.trans (st44 t (by
    show Go _ _ _ _ (mkF m 28 #[vR a1, vR it_23, vU] [(.ref x1)]) _
    refine XS.astoreN X44.here hx rfl (hb hby d15_28) rfl rfl (l' := #[vR a1, vR it_23, vR x1]) rfl ?_
    show Go _ _ _ _ (mkF m 29 #[vR a1, vR it_23, vR x1] []) _
    refine XS.aloadN X44.here hx rfl (hb hby d15_29) rfl rfl ?_
    exact kt)))
  obtain ⟨cq49, kq49, q49a, q49b, q49c⟩ := isOf hZ e44 f43
  obtain ⟨_, _, ⟨T48, L48, k48, n48⟩, -, X48, ⟨_, hQ48, l48, y48, z48⟩, st48⟩ := X44.virtualBack hx (y := ym46) (z := ym46) hown (ow hZ hw 329 rfl) (ow hZ hw 330 rfl) (notFace_of_selects (args := #[]) (ow hZ hw 332 rfl)) (ow hZ hw 332 rfl) (ow hZ hw 331 rfl) (by decide) (backOf (W := 0) (rm44 l Z a0 hw [] cx x1 s1 T38.heap n0 O41 f46) hZ (ox hw 333 rfl) (ox hw 23 rfl) (by decide) (by decide)) q49a q49c (g := (mkF m 30 #[vR a1, vR it_23, vR x1] [(.ref x1)])) rfl (by rw [hml]; rfl) (Steps.refl _) (argsL := []) (rest := []) (lenOf pd_27 rfl) rfl own_le0 (hb hby d15_30) (fun _ _ => ⟨rfl, e44, (by decide : 1 + 0 ≤ _), (by decide : 4 + 0 ≤ _)⟩)
  dsimp only [Pt.U, Pt.locs, Pt.cells, Pt.slots] at X48 l48 y48 z48 st48 hQ48
  subst l48 y48 z48
  obtain ⟨rfl, Nq48, eq48⟩ := hQ48
  have N50 := Fr.app N40 Nq48
  obtain ⟨T51, X51, e51, st51⟩ := getS2 X48 hx hZ hown (host := "") (Or.inl (ox hw 334 rfl)) Via.refl eq48 (cx.2.2.1.ext O41.2) (g := (mkF m 33 #[vR a1, vR it_23, vR x1] [(.ref s1)])) rfl (hb hby d15_33)
  have q52 := fun t (kt : Go p e below T51 (mkF m 36 #[vR a1, vR it_23, vR x1] [(.ref (cw 1)), (.ref s1)]) t) => q47 t (st48.trans (st51 t kt))
  by_cases hc53 : s1 = (cw 1)
  · have f54 := ((G5.keep Kq23 nin0).keep Kq38 (ninS ne45 nin0))
    have q55 := fun t (kt : Go p e below T51 (mkF m 40 #[vR a1, vR it_23, vR x1] [(.ref x1)]) t) => q52 t (by
      show Go _ _ _ _ (mkF m 36 #[vR a1, vR it_23, vR x1] [(.ref (cw 1)), (.ref s1)]) _
      refine Jvm.RoadKit.acmp (g := (mkF m 36 #[vR a1, vR it_23, vR x1] [(.ref (cw 1)), (.ref s1)])) X51 hx rfl rfl rfl (pc0 := 36) (pc' := 39) (same := true) rfl (hb hby d15_36) rfl (decide_eq_true (congrArg Value.ref hc53)) (by decide) (by decide) ?_
      show Go _ _ _ _ (mkF m 39 _ []) _
      refine XS.aloadN X51.here hx rfl (hb hby d15_39) rfl rfl ?_
      exact kt)
    obtain ⟨cq57, kq57, q57a, q57b, q57c⟩ := isOf hZ e51 f43
    obtain ⟨_, _, ⟨T56, L56, k56, n56⟩, -, X56, ⟨_, hQ56, l56, y56, z56⟩, st56⟩ := X51.virtualBack hx (y := ym47) (z := ym47) hown (ow hZ hw 342 rfl) (ow hZ hw 343 rfl) (notFace_of_selects (args := #[]) (ow hZ hw 345 rfl)) (ow hZ hw 345 rfl) (ow hZ hw 344 rfl) (by decide) (backOf (W := 0) (rm45 l Z a0 hw [] cx x1 t1 T38.heap n0 O41 f54) hZ (ox hw 346 rfl) (ox hw 23 rfl) (by decide) (by decide)) q57a q57c (g := (mkF m 40 #[vR a1, vR it_23, vR x1] [(.ref x1)])) rfl (by rw [hml]; rfl) (Steps.refl _) (argsL := []) (rest := []) (lenOf pd_28 rfl) rfl own_le0 (hb hby d15_40) (fun _ _ => ⟨rfl, e51, (by decide : 1 + 0 ≤ _), (by decide : 4 + 0 ≤ _)⟩)
    dsimp only [Pt.U, Pt.locs, Pt.cells, Pt.slots] at X56 l56 y56 z56 st56 hQ56
    subst l56 y56 z56
    obtain ⟨rfl, Nq56, eq56⟩ := hQ56
    have N58 := Fr.app N50 Nq56
    obtain ⟨_, _, ⟨T59, L59, k59, n59⟩, -, X59, ⟨_, hQ59, l59, y59, z59⟩, st59⟩ := Jvm.LawKit.callS X56 hx (y := ym49) hown (ow hZ hw 347 rfl) (ow hZ hw 348 rfl) (ow hZ hw 166 rfl) (ow hZ hw 349 rfl) (by decide) (backOf (W := 0) (rm46 l Z a0 hw [] cx t1 T38.heap n0 O41 ) hZ (ox hw 349 rfl) (ox hw 166 rfl) (by decide) (by decide)) (g := (mkF m 43 #[vR a1, vR it_23, vR x1] [(.ref t1)])) rfl (by rw [hml]; rfl) (argsL := [(.ref t1)]) (rest := []) (lenOf pd_29 rfl) rfl own_le0 (hb hby d15_43) (fun _ _ => ⟨rfl, eq56, (by decide : 1 + 1 ≤ _), (by decide : 4 + 1 ≤ _)⟩)
    dsimp only [Pt.U, Pt.locs, Pt.cells, Pt.slots] at X59 l59 y59 z59 st59 hQ59
    subst l59 y59 z59
    obtain ⟨b_59, rfl, Nq59, Kq59, fr59_0, fq59_0, fq59_1⟩ := hQ59
    have N60 := Fr.app N58 Nq59
    have gg61 : n0 ≤ b_59 := Nat.le_trans (O41.1 ▸ O41.2.1) fr59_0
    have sz62 : h0.size ≤ b_59 := Nat.le_trans K42.1 fr59_0
    have O63 := O41.keep Kq59 all0
    have K64 := K42.trans Kq59 all0
    have q65 := fun t (kt : Go p e below T59 (mkF m 46 #[vR a1, vR it_23, vR x1] [(.ref b_59)]) t) => q55 t (st56.trans (st59 t kt))
    exact ⟨some (.ref b_59), T59, _, _, _, _, X59, by decide, by decide, nofun, q65, fun fs hr => retOut X59 hx hret rfl (o4 ⟨rfl, rfl, rfl⟩) (hb hby d15_46) hr, ⟨b_59, rfl, N60, K64, fq59_0, (by have z := fq59_1; rw [show (Value.ref t1) = (own_find (cw 1) [(s1, t1), (s2, t2), (s3, t3)]) from by simp [own_find, hc53]] at z; exact z)⟩⟩
  · have q66 := fun t (kt : Go p e below T51 (mkF m 11 #[vR a1, vR it_23, vR x1] [(.ref it_23)]) t) => q52 t (by
      show Go _ _ _ _ (mkF m 36 #[vR a1, vR it_23, vR x1] [(.ref (cw 1)), (.ref s1)]) _
      refine Jvm.RoadKit.acmp (g := (mkF m 36 #[vR a1, vR it_23, vR x1] [(.ref (cw 1)), (.ref s1)])) X51 hx rfl rfl rfl (pc0 := 36) (pc' := 47) (same := false) rfl (hb hby d15_36) rfl (decide_eq_false (fun q => hc53 (Value.ref.inj q))) (by decide) (by decide) ?_
      show Go _ _ _ _ (mkF m 47 _ []) _
      refine XS.goto X51.here hx rfl (pc0 := 47) (pc' := 10) rfl (hb hby d15_47) (by decide) (by decide) ?_
      show Go _ _ _ _ (mkF m 10 _ []) _
      refine XS.aloadN X51.here hx rfl (hb hby d15_10) rfl rfl ?_
      exact kt)
    have f69 := (fq23_0.keep Kq38)
    obtain ⟨cq68, kq68, q68a, q68b, q68c⟩ := isOf hZ e51 f69
    obtain ⟨_, _, ⟨T67, L67, k67, n67⟩, -, X67, ⟨_, hQ67, l67, y67, z67⟩, st67⟩ := X51.interfaceBack hx (xi := ym56) (y := ym41) hown (ow hZ hw 155 rfl) (ow hZ hw 156 rfl) (ow hZ hw 157 rfl) (ow hZ hw 158 rfl) (ow hZ hw 159 rfl) (ow hZ hw 160 rfl) (ow hZ hw 161 rfl) (ow hZ hw 162 rfl) (by decide) (backOf (W := 0) (rm19Y l Z a0 hw [] cx it_23 (1 : Int32) (3 : Int32) T38.heap n0 O41 fq38_2 fq38_1 (by decide : ¬ ((1 : Int32) = (3 : Int32)))) hZ (ox hw 163 rfl) (ox hw 132 rfl) (by decide) (by decide)) q68a q68b q68c (g := (mkF m 11 #[vR a1, vR it_23, vR x1] [(.ref it_23)])) rfl (by rw [hml]; rfl) (Steps.refl _) (argsL := []) (rest := []) (lenOf pd_15 rfl) rfl own_le0 (hb hby d15_11) (fun _ _ => ⟨rfl, e51, (by decide : 1 + 0 ≤ _), (by decide : 4 + 0 ≤ _)⟩)
    dsimp only [Pt.U, Pt.locs, Pt.cells, Pt.slots] at X67 l67 y67 z67 st67 hQ67
    subst l67 y67 z67
    obtain ⟨rfl, Nq67, eq67⟩ := hQ67
    have N70 := Fr.app N50 Nq67
    have f71 := (f34.keep Kq38)
    have ne72 : a2 ≠ it_23 := (Nat.ne_of_lt (Nat.lt_of_lt_of_le G1.lt fr23_0))
    have f73 := (f35.keep Kq38 (ninS ne72 nin0))
    have ne74 : ra ≠ it_23 := (Nat.ne_of_lt (Nat.lt_of_lt_of_le G3.lt fr23_0))
    have f75 := (f36.keep Kq38 (ninS ne74 nin0))
    have q76 := fun t (kt : Go p e below T67 (mkF m 20 #[vR a1, vR it_23, vR x1] [(.ref it_23)]) t) => q66 t (st67.trans (by
      show Go _ _ _ _ (mkF m 16 #[vR a1, vR it_23, vR x1] [(.int 1)]) _
      refine XS.ifNo X67.here hx rfl (hb hby d15_16) rfl ((if0 _ _).trans (feq (by decide : ¬ ((1 : Int32) = (0 : Int32)))).1) ?_
      show Go _ _ _ _ (mkF m 19 _ []) _
      refine XS.aloadN X67.here hx rfl (hb hby d15_19) rfl rfl ?_
      exact kt))
    obtain ⟨cq78, kq78, q78a, q78b, q78c⟩ := isOf hZ eq67 f69
    obtain ⟨_, _, ⟨T77, L77, k77, n77⟩, -, X77, ⟨_, hQ77, l77, y77, z77⟩, st77⟩ := X67.interfaceBack hx (xi := ym57) (y := ym44) hown (ow hZ hw 311 rfl) (ow hZ hw 312 rfl) (ow hZ hw 313 rfl) (ow hZ hw 314 rfl) (ow hZ hw 315 rfl) (ow hZ hw 316 rfl) (ow hZ hw 317 rfl) (ow hZ hw 162 rfl) (by decide) (backOfWith (W := 0) (rm42_31 l Z a0 hw [] cx it_23 a2 x1 x2 x3 ra kr T38.heap n0 O41 f69 fq38_0 fq38_1 fq38_2 f71 f73 f75 gg26) hZ (ox hw 318 rfl) (ox hw 132 rfl) (by decide) (by decide)) q78a q78b q78c (g := (mkF m 20 #[vR a1, vR it_23, vR x1] [(.ref it_23)])) rfl (by rw [hml]; rfl) (Steps.refl _) (argsL := []) (rest := []) (lenOf pd_26 rfl) rfl own_le0 (hb hby d15_20) (fun _ _ => ⟨rfl, eq67, (by decide : 1 + 0 ≤ _), (by decide : 4 + 0 ≤ _)⟩)
    dsimp only [Pt.U, Pt.locs, Pt.cells, Pt.slots] at X77 l77 y77 z77 st77 hQ77
    subst l77 y77 z77
    obtain ⟨rfl, Nq77, Kq77, fq77_0, fq77_1, fq77_2⟩ := hQ77
    have N79 := Fr.app N70 Nq77
    have O80 := O41.keep Kq77 (allS gg26 all0)
    have K81 := K42.trans Kq77 (allS (Or.inr sz27) all0)
    have f82 := (((G7.keep Kq23).keep Kq38).keep Kq77)
    obtain ⟨T83, X83, e83, st83⟩ := castY X77 hx hZ hown (ox hw 327 rfl) rfl (Ins.self f82) (g := (mkF m 25 #[vR a1, vR it_23, vR x1] [(.ref x2)])) rfl rfl (hb hby d15_25)
    have ne84 : x2 ≠ it_23 := (Nat.ne_of_lt (Nat.lt_of_lt_of_le G7.lt fr23_0))
    have f85 := (((G9.keep Kq23 nin0).keep Kq38 (ninS ne84 nin0)).keep Kq77 (ninS ne84 nin0))
    have q86 := fun t (kt : Go p e below T83 (mkF m 30 #[vR a1, vR it_23, vR x2] [(.ref x2)]) t) => q76 t (st77.trans (st83 t (by
      show Go _ _ _ _ (mkF m 28 #[vR a1, vR it_23, vR x1] [(.ref x2)]) _
      refine XS.astoreN X83.here hx rfl (hb hby d15_28) rfl rfl (l' := #[vR a1, vR it_23, vR x2]) rfl ?_
      show Go _ _ _ _ (mkF m 29 #[vR a1, vR it_23, vR x2] []) _
      refine XS.aloadN X83.here hx rfl (hb hby d15_29) rfl rfl ?_
      exact kt)))
    obtain ⟨cq88, kq88, q88a, q88b, q88c⟩ := isOf hZ e83 f82
    obtain ⟨_, _, ⟨T87, L87, k87, n87⟩, -, X87, ⟨_, hQ87, l87, y87, z87⟩, st87⟩ := X83.virtualBack hx (y := ym46) (z := ym46) hown (ow hZ hw 329 rfl) (ow hZ hw 330 rfl) (notFace_of_selects (args := #[]) (ow hZ hw 332 rfl)) (ow hZ hw 332 rfl) (ow hZ hw 331 rfl) (by decide) (backOf (W := 0) (rm44 l Z a0 hw [] cx x2 s2 T77.heap n0 O80 f85) hZ (ox hw 333 rfl) (ox hw 23 rfl) (by decide) (by decide)) q88a q88c (g := (mkF m 30 #[vR a1, vR it_23, vR x2] [(.ref x2)])) rfl (by rw [hml]; rfl) (Steps.refl _) (argsL := []) (rest := []) (lenOf pd_27 rfl) rfl own_le0 (hb hby d15_30) (fun _ _ => ⟨rfl, e83, (by decide : 1 + 0 ≤ _), (by decide : 4 + 0 ≤ _)⟩)
    dsimp only [Pt.U, Pt.locs, Pt.cells, Pt.slots] at X87 l87 y87 z87 st87 hQ87
    subst l87 y87 z87
    obtain ⟨rfl, Nq87, eq87⟩ := hQ87
    have N89 := Fr.app N79 Nq87
    obtain ⟨T90, X90, e90, st90⟩ := getS2 X87 hx hZ hown (host := "") (Or.inl (ox hw 334 rfl)) Via.refl eq87 (cx.2.2.1.ext O80.2) (g := (mkF m 33 #[vR a1, vR it_23, vR x2] [(.ref s2)])) rfl (hb hby d15_33)
    have q91 := fun t (kt : Go p e below T90 (mkF m 36 #[vR a1, vR it_23, vR x2] [(.ref (cw 1)), (.ref s2)]) t) => q86 t (st87.trans (st90 t kt))
    by_cases hc92 : s2 = (cw 1)
    · have f93 := (((G8.keep Kq23 nin0).keep Kq38 (ninS ne84 nin0)).keep Kq77 (ninS ne84 nin0))
      have q94 := fun t (kt : Go p e below T90 (mkF m 40 #[vR a1, vR it_23, vR x2] [(.ref x2)]) t) => q91 t (by
        show Go _ _ _ _ (mkF m 36 #[vR a1, vR it_23, vR x2] [(.ref (cw 1)), (.ref s2)]) _
        refine Jvm.RoadKit.acmp (g := (mkF m 36 #[vR a1, vR it_23, vR x2] [(.ref (cw 1)), (.ref s2)])) X90 hx rfl rfl rfl (pc0 := 36) (pc' := 39) (same := true) rfl (hb hby d15_36) rfl (decide_eq_true (congrArg Value.ref hc92)) (by decide) (by decide) ?_
        show Go _ _ _ _ (mkF m 39 _ []) _
        refine XS.aloadN X90.here hx rfl (hb hby d15_39) rfl rfl ?_
        exact kt)
      obtain ⟨cq96, kq96, q96a, q96b, q96c⟩ := isOf hZ e90 f82
      obtain ⟨_, _, ⟨T95, L95, k95, n95⟩, -, X95, ⟨_, hQ95, l95, y95, z95⟩, st95⟩ := X90.virtualBack hx (y := ym47) (z := ym47) hown (ow hZ hw 342 rfl) (ow hZ hw 343 rfl) (notFace_of_selects (args := #[]) (ow hZ hw 345 rfl)) (ow hZ hw 345 rfl) (ow hZ hw 344 rfl) (by decide) (backOf (W := 0) (rm45 l Z a0 hw [] cx x2 t2 T77.heap n0 O80 f93) hZ (ox hw 346 rfl) (ox hw 23 rfl) (by decide) (by decide)) q96a q96c (g := (mkF m 40 #[vR a1, vR it_23, vR x2] [(.ref x2)])) rfl (by rw [hml]; rfl) (Steps.refl _) (argsL := []) (rest := []) (lenOf pd_28 rfl) rfl own_le0 (hb hby d15_40) (fun _ _ => ⟨rfl, e90, (by decide : 1 + 0 ≤ _), (by decide : 4 + 0 ≤ _)⟩)
      dsimp only [Pt.U, Pt.locs, Pt.cells, Pt.slots] at X95 l95 y95 z95 st95 hQ95
      subst l95 y95 z95
      obtain ⟨rfl, Nq95, eq95⟩ := hQ95
      have N97 := Fr.app N89 Nq95
      obtain ⟨_, _, ⟨T98, L98, k98, n98⟩, -, X98, ⟨_, hQ98, l98, y98, z98⟩, st98⟩ := Jvm.LawKit.callS X95 hx (y := ym49) hown (ow hZ hw 347 rfl) (ow hZ hw 348 rfl) (ow hZ hw 166 rfl) (ow hZ hw 349 rfl) (by decide) (backOf (W := 0) (rm46 l Z a0 hw [] cx t2 T77.heap n0 O80 ) hZ (ox hw 349 rfl) (ox hw 166 rfl) (by decide) (by decide)) (g := (mkF m 43 #[vR a1, vR it_23, vR x2] [(.ref t2)])) rfl (by rw [hml]; rfl) (argsL := [(.ref t2)]) (rest := []) (lenOf pd_29 rfl) rfl own_le0 (hb hby d15_43) (fun _ _ => ⟨rfl, eq95, (by decide : 1 + 1 ≤ _), (by decide : 4 + 1 ≤ _)⟩)
      dsimp only [Pt.U, Pt.locs, Pt.cells, Pt.slots] at X98 l98 y98 z98 st98 hQ98
      subst l98 y98 z98
      obtain ⟨b_98, rfl, Nq98, Kq98, fr98_0, fq98_0, fq98_1⟩ := hQ98
      have N99 := Fr.app N97 Nq98
      have gg100 : n0 ≤ b_98 := Nat.le_trans (O80.1 ▸ O80.2.1) fr98_0
      have sz101 : h0.size ≤ b_98 := Nat.le_trans K81.1 fr98_0
      have O102 := O80.keep Kq98 all0
      have K103 := K81.trans Kq98 all0
      have q104 := fun t (kt : Go p e below T98 (mkF m 46 #[vR a1, vR it_23, vR x2] [(.ref b_98)]) t) => q94 t (st95.trans (st98 t kt))
      exact ⟨some (.ref b_98), T98, _, _, _, _, X98, by decide, by decide, nofun, q104, fun fs hr => retOut X98 hx hret rfl (o4 ⟨rfl, rfl, rfl⟩) (hb hby d15_46) hr, ⟨b_98, rfl, N99, K103, fq98_0, (by have z := fq98_1; rw [show (Value.ref t2) = (own_find (cw 1) [(s1, t1), (s2, t2), (s3, t3)]) from by simp [own_find, hc53, hc92]] at z; exact z)⟩⟩
    · have q105 := fun t (kt : Go p e below T90 (mkF m 11 #[vR a1, vR it_23, vR x2] [(.ref it_23)]) t) => q91 t (by
        show Go _ _ _ _ (mkF m 36 #[vR a1, vR it_23, vR x2] [(.ref (cw 1)), (.ref s2)]) _
        refine Jvm.RoadKit.acmp (g := (mkF m 36 #[vR a1, vR it_23, vR x2] [(.ref (cw 1)), (.ref s2)])) X90 hx rfl rfl rfl (pc0 := 36) (pc' := 47) (same := false) rfl (hb hby d15_36) rfl (decide_eq_false (fun q => hc92 (Value.ref.inj q))) (by decide) (by decide) ?_
        show Go _ _ _ _ (mkF m 47 _ []) _
        refine XS.goto X90.here hx rfl (pc0 := 47) (pc' := 10) rfl (hb hby d15_47) (by decide) (by decide) ?_
        show Go _ _ _ _ (mkF m 10 _ []) _
        refine XS.aloadN X90.here hx rfl (hb hby d15_10) rfl rfl ?_
        exact kt)
      have f108 := (f69.keep Kq77)
      obtain ⟨cq107, kq107, q107a, q107b, q107c⟩ := isOf hZ e90 f108
      obtain ⟨_, _, ⟨T106, L106, k106, n106⟩, -, X106, ⟨_, hQ106, l106, y106, z106⟩, st106⟩ := X90.interfaceBack hx (xi := ym56) (y := ym41) hown (ow hZ hw 155 rfl) (ow hZ hw 156 rfl) (ow hZ hw 157 rfl) (ow hZ hw 158 rfl) (ow hZ hw 159 rfl) (ow hZ hw 160 rfl) (ow hZ hw 161 rfl) (ow hZ hw 162 rfl) (by decide) (backOf (W := 0) (rm19Y l Z a0 hw [] cx it_23 (2 : Int32) (3 : Int32) T77.heap n0 O80 fq77_2 fq77_1 (by decide : ¬ ((2 : Int32) = (3 : Int32)))) hZ (ox hw 163 rfl) (ox hw 132 rfl) (by decide) (by decide)) q107a q107b q107c (g := (mkF m 11 #[vR a1, vR it_23, vR x2] [(.ref it_23)])) rfl (by rw [hml]; rfl) (Steps.refl _) (argsL := []) (rest := []) (lenOf pd_15 rfl) rfl own_le0 (hb hby d15_11) (fun _ _ => ⟨rfl, e90, (by decide : 1 + 0 ≤ _), (by decide : 4 + 0 ≤ _)⟩)
      dsimp only [Pt.U, Pt.locs, Pt.cells, Pt.slots] at X106 l106 y106 z106 st106 hQ106
      subst l106 y106 z106
      obtain ⟨rfl, Nq106, eq106⟩ := hQ106
      have N109 := Fr.app N89 Nq106
      have f110 := (f71.keep Kq77)
      have f111 := (f73.keep Kq77 (ninS ne72 nin0))
      have f112 := (f75.keep Kq77 (ninS ne74 nin0))
      have q113 := fun t (kt : Go p e below T106 (mkF m 20 #[vR a1, vR it_23, vR x2] [(.ref it_23)]) t) => q105 t (st106.trans (by
        show Go _ _ _ _ (mkF m 16 #[vR a1, vR it_23, vR x2] [(.int 1)]) _
        refine XS.ifNo X106.here hx rfl (hb hby d15_16) rfl ((if0 _ _).trans (feq (by decide : ¬ ((1 : Int32) = (0 : Int32)))).1) ?_
        show Go _ _ _ _ (mkF m 19 _ []) _
        refine XS.aloadN X106.here hx rfl (hb hby d15_19) rfl rfl ?_
        exact kt))
      obtain ⟨cq115, kq115, q115a, q115b, q115c⟩ := isOf hZ eq106 f108
      obtain ⟨_, _, ⟨T114, L114, k114, n114⟩, -, X114, ⟨_, hQ114, l114, y114, z114⟩, st114⟩ := X106.interfaceBack hx (xi := ym57) (y := ym44) hown (ow hZ hw 311 rfl) (ow hZ hw 312 rfl) (ow hZ hw 313 rfl) (ow hZ hw 314 rfl) (ow hZ hw 315 rfl) (ow hZ hw 316 rfl) (ow hZ hw 317 rfl) (ow hZ hw 162 rfl) (by decide) (backOfWith (W := 0) (rm42_32 l Z a0 hw [] cx it_23 a2 x1 x2 x3 ra kr T77.heap n0 O80 f108 fq77_0 fq77_1 fq77_2 f110 f111 f112 gg26) hZ (ox hw 318 rfl) (ox hw 132 rfl) (by decide) (by decide)) q115a q115b q115c (g := (mkF m 20 #[vR a1, vR it_23, vR x2] [(.ref it_23)])) rfl (by rw [hml]; rfl) (Steps.refl _) (argsL := []) (rest := []) (lenOf pd_26 rfl) rfl own_le0 (hb hby d15_20) (fun _ _ => ⟨rfl, eq106, (by decide : 1 + 0 ≤ _), (by decide : 4 + 0 ≤ _)⟩)
      dsimp only [Pt.U, Pt.locs, Pt.cells, Pt.slots] at X114 l114 y114 z114 st114 hQ114
      subst l114 y114 z114
      obtain ⟨rfl, Nq114, Kq114, fq114_0, fq114_1, fq114_2⟩ := hQ114
      have N116 := Fr.app N109 Nq114
      have O117 := O80.keep Kq114 (allS gg26 all0)
      have K118 := K81.trans Kq114 (allS (Or.inr sz27) all0)
      have f119 := ((((G10.keep Kq23).keep Kq38).keep Kq77).keep Kq114)
      obtain ⟨T120, X120, e120, st120⟩ := castY X114 hx hZ hown (ox hw 327 rfl) rfl (Ins.self f119) (g := (mkF m 25 #[vR a1, vR it_23, vR x2] [(.ref x3)])) rfl rfl (hb hby d15_25)
      have ne121 : x3 ≠ it_23 := (Nat.ne_of_lt (Nat.lt_of_lt_of_le G10.lt fr23_0))
      have f122 := ((((G12.keep Kq23 nin0).keep Kq38 (ninS ne121 nin0)).keep Kq77 (ninS ne121 nin0)).keep Kq114 (ninS ne121 nin0))
      have q123 := fun t (kt : Go p e below T120 (mkF m 30 #[vR a1, vR it_23, vR x3] [(.ref x3)]) t) => q113 t (st114.trans (st120 t (by
        show Go _ _ _ _ (mkF m 28 #[vR a1, vR it_23, vR x2] [(.ref x3)]) _
        refine XS.astoreN X120.here hx rfl (hb hby d15_28) rfl rfl (l' := #[vR a1, vR it_23, vR x3]) rfl ?_
        show Go _ _ _ _ (mkF m 29 #[vR a1, vR it_23, vR x3] []) _
        refine XS.aloadN X120.here hx rfl (hb hby d15_29) rfl rfl ?_
        exact kt)))
      obtain ⟨cq125, kq125, q125a, q125b, q125c⟩ := isOf hZ e120 f119
      obtain ⟨_, _, ⟨T124, L124, k124, n124⟩, -, X124, ⟨_, hQ124, l124, y124, z124⟩, st124⟩ := X120.virtualBack hx (y := ym46) (z := ym46) hown (ow hZ hw 329 rfl) (ow hZ hw 330 rfl) (notFace_of_selects (args := #[]) (ow hZ hw 332 rfl)) (ow hZ hw 332 rfl) (ow hZ hw 331 rfl) (by decide) (backOf (W := 0) (rm44 l Z a0 hw [] cx x3 s3 T114.heap n0 O117 f122) hZ (ox hw 333 rfl) (ox hw 23 rfl) (by decide) (by decide)) q125a q125c (g := (mkF m 30 #[vR a1, vR it_23, vR x3] [(.ref x3)])) rfl (by rw [hml]; rfl) (Steps.refl _) (argsL := []) (rest := []) (lenOf pd_27 rfl) rfl own_le0 (hb hby d15_30) (fun _ _ => ⟨rfl, e120, (by decide : 1 + 0 ≤ _), (by decide : 4 + 0 ≤ _)⟩)
      dsimp only [Pt.U, Pt.locs, Pt.cells, Pt.slots] at X124 l124 y124 z124 st124 hQ124
      subst l124 y124 z124
      obtain ⟨rfl, Nq124, eq124⟩ := hQ124
      have N126 := Fr.app N116 Nq124
      obtain ⟨T127, X127, e127, st127⟩ := getS2 X124 hx hZ hown (host := "") (Or.inl (ox hw 334 rfl)) Via.refl eq124 (cx.2.2.1.ext O117.2) (g := (mkF m 33 #[vR a1, vR it_23, vR x3] [(.ref s3)])) rfl (hb hby d15_33)
      have q128 := fun t (kt : Go p e below T127 (mkF m 36 #[vR a1, vR it_23, vR x3] [(.ref (cw 1)), (.ref s3)]) t) => q123 t (st124.trans (st127 t kt))
      by_cases hc129 : s3 = (cw 1)
      · have f130 := ((((G11.keep Kq23 nin0).keep Kq38 (ninS ne121 nin0)).keep Kq77 (ninS ne121 nin0)).keep Kq114 (ninS ne121 nin0))
        have q131 := fun t (kt : Go p e below T127 (mkF m 40 #[vR a1, vR it_23, vR x3] [(.ref x3)]) t) => q128 t (by
          show Go _ _ _ _ (mkF m 36 #[vR a1, vR it_23, vR x3] [(.ref (cw 1)), (.ref s3)]) _
          refine Jvm.RoadKit.acmp (g := (mkF m 36 #[vR a1, vR it_23, vR x3] [(.ref (cw 1)), (.ref s3)])) X127 hx rfl rfl rfl (pc0 := 36) (pc' := 39) (same := true) rfl (hb hby d15_36) rfl (decide_eq_true (congrArg Value.ref hc129)) (by decide) (by decide) ?_
          show Go _ _ _ _ (mkF m 39 _ []) _
          refine XS.aloadN X127.here hx rfl (hb hby d15_39) rfl rfl ?_
          exact kt)
        obtain ⟨cq133, kq133, q133a, q133b, q133c⟩ := isOf hZ e127 f119
        obtain ⟨_, _, ⟨T132, L132, k132, n132⟩, -, X132, ⟨_, hQ132, l132, y132, z132⟩, st132⟩ := X127.virtualBack hx (y := ym47) (z := ym47) hown (ow hZ hw 342 rfl) (ow hZ hw 343 rfl) (notFace_of_selects (args := #[]) (ow hZ hw 345 rfl)) (ow hZ hw 345 rfl) (ow hZ hw 344 rfl) (by decide) (backOf (W := 0) (rm45 l Z a0 hw [] cx x3 t3 T114.heap n0 O117 f130) hZ (ox hw 346 rfl) (ox hw 23 rfl) (by decide) (by decide)) q133a q133c (g := (mkF m 40 #[vR a1, vR it_23, vR x3] [(.ref x3)])) rfl (by rw [hml]; rfl) (Steps.refl _) (argsL := []) (rest := []) (lenOf pd_28 rfl) rfl own_le0 (hb hby d15_40) (fun _ _ => ⟨rfl, e127, (by decide : 1 + 0 ≤ _), (by decide : 4 + 0 ≤ _)⟩)
        dsimp only [Pt.U, Pt.locs, Pt.cells, Pt.slots] at X132 l132 y132 z132 st132 hQ132
        subst l132 y132 z132
        obtain ⟨rfl, Nq132, eq132⟩ := hQ132
        have N134 := Fr.app N126 Nq132
        obtain ⟨_, _, ⟨T135, L135, k135, n135⟩, -, X135, ⟨_, hQ135, l135, y135, z135⟩, st135⟩ := Jvm.LawKit.callS X132 hx (y := ym49) hown (ow hZ hw 347 rfl) (ow hZ hw 348 rfl) (ow hZ hw 166 rfl) (ow hZ hw 349 rfl) (by decide) (backOf (W := 0) (rm46 l Z a0 hw [] cx t3 T114.heap n0 O117 ) hZ (ox hw 349 rfl) (ox hw 166 rfl) (by decide) (by decide)) (g := (mkF m 43 #[vR a1, vR it_23, vR x3] [(.ref t3)])) rfl (by rw [hml]; rfl) (argsL := [(.ref t3)]) (rest := []) (lenOf pd_29 rfl) rfl own_le0 (hb hby d15_43) (fun _ _ => ⟨rfl, eq132, (by decide : 1 + 1 ≤ _), (by decide : 4 + 1 ≤ _)⟩)
        dsimp only [Pt.U, Pt.locs, Pt.cells, Pt.slots] at X135 l135 y135 z135 st135 hQ135
        subst l135 y135 z135
        obtain ⟨b_135, rfl, Nq135, Kq135, fr135_0, fq135_0, fq135_1⟩ := hQ135
        have N136 := Fr.app N134 Nq135
        have gg137 : n0 ≤ b_135 := Nat.le_trans (O117.1 ▸ O117.2.1) fr135_0
        have sz138 : h0.size ≤ b_135 := Nat.le_trans K118.1 fr135_0
        have O139 := O117.keep Kq135 all0
        have K140 := K118.trans Kq135 all0
        have q141 := fun t (kt : Go p e below T135 (mkF m 46 #[vR a1, vR it_23, vR x3] [(.ref b_135)]) t) => q131 t (st132.trans (st135 t kt))
        exact ⟨some (.ref b_135), T135, _, _, _, _, X135, by decide, by decide, nofun, q141, fun fs hr => retOut X135 hx hret rfl (o4 ⟨rfl, rfl, rfl⟩) (hb hby d15_46) hr, ⟨b_135, rfl, N136, K140, fq135_0, (by have z := fq135_1; rw [show (Value.ref t3) = (own_find (cw 1) [(s1, t1), (s2, t2), (s3, t3)]) from by simp [own_find, hc53, hc92, hc129]] at z; exact z)⟩⟩
      · have q142 := fun t (kt : Go p e below T127 (mkF m 11 #[vR a1, vR it_23, vR x3] [(.ref it_23)]) t) => q128 t (by
          show Go _ _ _ _ (mkF m 36 #[vR a1, vR it_23, vR x3] [(.ref (cw 1)), (.ref s3)]) _
          refine Jvm.RoadKit.acmp (g := (mkF m 36 #[vR a1, vR it_23, vR x3] [(.ref (cw 1)), (.ref s3)])) X127 hx rfl rfl rfl (pc0 := 36) (pc' := 47) (same := false) rfl (hb hby d15_36) rfl (decide_eq_false (fun q => hc129 (Value.ref.inj q))) (by decide) (by decide) ?_
          show Go _ _ _ _ (mkF m 47 _ []) _
          refine XS.goto X127.here hx rfl (pc0 := 47) (pc' := 10) rfl (hb hby d15_47) (by decide) (by decide) ?_
          show Go _ _ _ _ (mkF m 10 _ []) _
          refine XS.aloadN X127.here hx rfl (hb hby d15_10) rfl rfl ?_
          exact kt)
        have f145 := (f108.keep Kq114)
        obtain ⟨cq144, kq144, q144a, q144b, q144c⟩ := isOf hZ e127 f145
        obtain ⟨_, _, ⟨T143, L143, k143, n143⟩, -, X143, ⟨_, hQ143, l143, y143, z143⟩, st143⟩ := X127.interfaceBack hx (xi := ym56) (y := ym41) hown (ow hZ hw 155 rfl) (ow hZ hw 156 rfl) (ow hZ hw 157 rfl) (ow hZ hw 158 rfl) (ow hZ hw 159 rfl) (ow hZ hw 160 rfl) (ow hZ hw 161 rfl) (ow hZ hw 162 rfl) (by decide) (backOf (W := 0) (rm19N l Z a0 hw [] cx it_23 (3 : Int32) (3 : Int32) T114.heap n0 O117 fq114_2 fq114_1 (rfl : (3 : Int32) = (3 : Int32))) hZ (ox hw 163 rfl) (ox hw 132 rfl) (by decide) (by decide)) q144a q144b q144c (g := (mkF m 11 #[vR a1, vR it_23, vR x3] [(.ref it_23)])) rfl (by rw [hml]; rfl) (Steps.refl _) (argsL := []) (rest := []) (lenOf pd_15 rfl) rfl own_le0 (hb hby d15_11) (fun _ _ => ⟨rfl, e127, (by decide : 1 + 0 ≤ _), (by decide : 4 + 0 ≤ _)⟩)
        dsimp only [Pt.U, Pt.locs, Pt.cells, Pt.slots] at X143 l143 y143 z143 st143 hQ143
        subst l143 y143 z143
        obtain ⟨rfl, Nq143, eq143⟩ := hQ143
        have N146 := Fr.app N126 Nq143
        have q147 := fun t (kt : Go p e below T143 (mkF m 50 #[vR a1, vR it_23, vR x3] []) t) => q142 t (st143.trans (by
          show Go _ _ _ _ (mkF m 16 #[vR a1, vR it_23, vR x3] [(.int 0)]) _
          refine XS.ifYes X143.here hx rfl (pc0 := 16) (pc' := 50) rfl (hb hby d15_16) rfl ((if0 _ _).trans (teq (rfl : (0 : Int32) = (0 : Int32))).1) (by decide) (by decide) ?_
          exact kt))
        obtain ⟨_, _, ⟨T148, L148, k148, n148⟩, -, X148, ⟨_, hQ148, l148, y148, z148⟩, st148⟩ := Jvm.LawKit.callS X143 hx (y := ym50) hown (ow hZ hw 164 rfl) (ow hZ hw 165 rfl) (ow hZ hw 166 rfl) (ow hZ hw 167 rfl) (by decide) (backOf (W := 0) (rm20 l Z a0 hw [] cx  T114.heap n0 O117 ) hZ (ox hw 167 rfl) (ox hw 166 rfl) (by decide) (by decide)) (g := (mkF m 50 #[vR a1, vR it_23, vR x3] [])) rfl (by rw [hml]; rfl) (argsL := []) (rest := []) (lenOf pd_25 rfl) rfl own_le0 (hb hby d15_50) (fun _ _ => ⟨rfl, eq143, (by decide : 1 + 0 ≤ _), (by decide : 4 + 0 ≤ _)⟩)
        dsimp only [Pt.U, Pt.locs, Pt.cells, Pt.slots] at X148 l148 y148 z148 st148 hQ148
        subst l148 y148 z148
        obtain ⟨rfl, Nq148, eq148⟩ := hQ148
        have N149 := Fr.app N146 Nq148
        have q150 := fun t (kt : Go p e below T148 (mkF m 53 #[vR a1, vR it_23, vR x3] [(.ref (cw 18))]) t) => q147 t (st148 t kt)
        exact ⟨some (.ref (cw 18)), T148, _, _, _, _, X148, by decide, by decide, nofun, q150, fun fs hr => retOut X148 hx hret rfl (o4 ⟨rfl, rfl, rfl⟩) (hb hby d15_53) hr, by rw [eq148]; exact ⟨(cw 18), rfl, N149, K118, (cx.2.2.2.2.2.2.2.2.2.2.2.2.2.2.2.2.2.2.2.2.2.2.2.2.2.2.2.2.2.2.2.2.2.2.2.2.1.ext O117.2), (by have z := (cx.2.2.2.2.2.2.2.2.2.2.2.2.2.2.2.2.2.2.2.2.2.2.2.2.2.2.2.2.2.2.2.2.2.2.2.2.2.1.ext O117.2); rw [show Value.null = (own_find (cw 1) [(s1, t1), (s2, t2), (s3, t3)]) from by simp [own_find, hc53, hc92, hc129]] at z; exact z)⟩⟩
theorem own_lt12 {x : Int32} (h : x < (1 : Int32)) : x < (2 : Int32) := by
  rw [Int32.lt_iff_toInt_lt] at h ⊢; have e1 : (1 : Int32).toInt = 1 := rfl; have e2 : (2 : Int32).toInt = 2 := rfl; omega
theorem own_lt23 {x : Int32} (h : x < (2 : Int32)) : x < (3 : Int32) := by
  rw [Int32.lt_iff_toInt_lt] at h ⊢; have e1 : (3 : Int32).toInt = 3 := rfl; have e2 : (2 : Int32).toInt = 2 := rfl; omega
theorem own_and255 (x : Int32) : ¬ ((255 : Int32) < (x &&& (255 : Int32))) := by
  have h1 := c_mask x 255 8 (by decide) (by decide)
  have e1 : (255 : Int32).toInt = 255 := rfl
  rw [Int32.lt_iff_toInt_lt]; omega
theorem ef_0_IIIII (m : MethodId) (x0 : Int32) (x1 : Int32) (x2 : Int32) (x3 : Int32) (x4 : Int32) : entryFrame m #[(.int x0), (.int x1), (.int x2), (.int x3), (.int x4)] maxLocals = mkF m 0 #[.val (.int x0), .val (.int x1), .val (.int x2), .val (.int x3), .val (.int x4), .unset, .unset, .unset, .unset, .unset, .unset, .unset, .unset, .unset] [] := by first | (simp [entryFrame, mkF, argsToLocals, Value.category, maxLocals]; done) | rfl
theorem pn_0 : plainName "com/example/sherman/sherman/service/VerificationRefusedAtPinLaw" = true := by first | (simp [plainName, overriddenIn]; done) | decide +kernel
theorem pd_30 : parseMethodDescriptor "(I)Lcom/example/sherman/sherman/service/Verification$Outcome;" = some ⟨[.int], some (.object "com/example/sherman/sherman/service/Verification$Outcome")⟩ := by decide +kernel
theorem pd_31 : parseMethodDescriptor "(Ljava/util/List;Ljava/util/List;)V" = some ⟨[(.object "java/util/List"), (.object "java/util/List")], none⟩ := by decide +kernel
theorem pd_32 : parseMethodDescriptor "(C)Ljava/lang/String;" = some ⟨[.char], some (.object "java/lang/String")⟩ := by decide +kernel
theorem pd_33 : parseMethodDescriptor "(Ljava/lang/Object;)Z" = some ⟨[(.object "java/lang/Object")], some .boolean⟩ := by decide +kernel
def Q_rm0 (Z : State) (p1 : Int32) (p2 : Int32) (p3 : Int32) (p4 : Int32) (p5 : Int32) (cw : Nat → Nat) (z_cs : Int32) (h0 : Heap) (n0 : Nat) (v : Option Value) (h : Heap) (L : List Loc) : Prop := v = some (.int 1) ∧ Fr n0 L
theorem rm0 (l : Launch) (Z : State) (a0 : Array Value) (hw : ∀ d ∈ tables_1, d.before a0 Z = true) (ws : List Jvm.Cond) {cw : Nat → Nat} {z_cs : Int32} (cx : Cx Z cw z_cs) (p1 : Int32) (p2 : Int32) (p3 : Int32) (p4 : Int32) (p5 : Int32) (h0 : Heap) (n0 : Nat) (O0 : Old Z n0 h0) :
    MetFree l x (head1 (Jvm.Cond.code x code maxLocals ret :: ws) room_1) (fun a U => a = #[(.int p1), (.int p2), (.int p3), (.int p4), (.int p5)] ∧ Z.Warmed39 U.vm ∧ U.heap = h0) (fun _ _ _ _ _ => True) (fun _ U o U' => ∃ v L, o = .returned v ∧ Q_rm0 Z p1 p2 p3 p4 p5 cw z_cs h0 n0 v U'.heap L ∧ ReturnedEndW U o U' L room_1.cells room_1.slots) := by
  refine MetFree.of_bodySF (plainFor_of_name pn_0) hisR ?_
  intro p e s m args below meth c s₁ Bd hml0 hP hK
  obtain ⟨rfl, hZ, hh⟩ := hP
  have hx := Bd.exec
  have hby := Bd.bytes
  have hml : c.maxLocals = 14 := hml0
  have hown : s.vm.findClass sk11 = some m.cls := findClass_of_methodNamed Bd.named
  have hnm := (name_of_methodNamed Bd.named Bd.method).1
  have hS0 : s.Since s.vm 0 := (State.WarmedH.refl s).since 0
  have hk0 : 0 ≤ h0.size := Nat.zero_le _
  have hwS : ∀ d ∈ Bundle.stringAtoms, d.before a0 Z = true := fun d hd => hw d ((by decide +kernel : ∀ d ∈ Bundle.stringAtoms, d ∈ tables_1) d hd)
  have X0 : Stand p l e room_1 (s.setVm s.vm) m #[(.int p1), (.int p2), (.int p3), (.int p4), (.int p5)] below meth c s₁ [] 0 0 := Stand.of_body Bd
  have e0 : s₁.heap = h0 := by rw [← hh, Bd.state]; rfl
  have N0 := Fr.nil n0
  have pre0 : ∀ t, Go p e below s₁ (mkF m 0 #[vI p1, vI p2, vI p3, vI p4, vI p5, vU, vU, vU, vU, vU, vU, vU, vU, vU] []) t → Go p e below s₁ (entryFrame m #[(.int p1), (.int p2), (.int p3), (.int p4), (.int p5)] maxLocals) t := fun t k => castTop (ef_0_IIIII m p1 p2 p3 p4 p5) k
  have q21 := fun t (kt : Go p e below s₁ (mkF m 9 #[vI p1, vI p2, vI p3, vI p4, vI p5, vI ((p1 &&& (2147483647 : Int32)) % (4 : Int32)), vU, vU, vU, vU, vU, vU, vU, vU] [(.int p2)]) t) => pre0 t (by
    show Go _ _ _ _ (mkF m 0 #[vI p1, vI p2, vI p3, vI p4, vI p5, vU, vU, vU, vU, vU, vU, vU, vU, vU] []) _
    refine XS.iloadN X0.here hx rfl (hb hby at_0) rfl ?_
    show Go _ _ _ _ (mkF m 1 _ [(.int p1)]) _
    refine X0.ldcInt hx hown (ow hZ hw 0 rfl) (g := (mkF m 1 #[vI p1, vI p2, vI p3, vI p4, vI p5, vU, vU, vU, vU, vU, vU, vU, vU, vU] [(.int p1)])) rfl (hb hby at_1) _ ?_
    show Go _ _ _ _ (mkF m 3 _ [(.int 2147483647), (.int p1)]) _
    refine XS.iand X0.here hx rfl (hb hby at_3) rfl ?_
    show Go _ _ _ _ (mkF m 4 _ [(.int (p1 &&& (2147483647 : Int32)))]) _
    refine XS.iconst X0.here hx rfl (hb hby at_4) ?_
    show Go _ _ _ _ (mkF m 5 _ [(.int 4), (.int (p1 &&& (2147483647 : Int32)))]) _
    refine iremM (g := (mkF m 5 #[vI p1, vI p2, vI p3, vI p4, vI p5, vU, vU, vU, vU, vU, vU, vU, vU, vU] [(.int 4), (.int (p1 &&& (2147483647 : Int32)))])) X0 hx rfl (hb hby at_5) rfl (by decide : ¬ ((4 : Int32) = (0 : Int32))) ?_
    show Go _ _ _ _ (mkF m 6 _ [(.int ((p1 &&& (2147483647 : Int32)) % (4 : Int32)))]) _
    refine XS.istore X0.here hx rfl (hb hby at_6) rfl (l' := #[vI p1, vI p2, vI p3, vI p4, vI p5, vI ((p1 &&& (2147483647 : Int32)) % (4 : Int32)), vU, vU, vU, vU, vU, vU, vU, vU]) rfl ?_
    show Go _ _ _ _ (mkF m 8 #[vI p1, vI p2, vI p3, vI p4, vI p5, vI ((p1 &&& (2147483647 : Int32)) % (4 : Int32)), vU, vU, vU, vU, vU, vU, vU, vU] []) _
    refine XS.iloadN X0.here hx rfl (hb hby at_8) rfl ?_
    exact kt)
  obtain ⟨_, _, ⟨T22, L22, k22, n22⟩, -, X22, hSn22, hgn22, ⟨_, hQ22, l22, y22, z22⟩, st22⟩ := callSS X0 hx (y := ym7) hown (ow hZ hw 1 rfl) (ow hZ hw 2 rfl) (ow hZ hw 3 rfl) (ow hZ hw 4 rfl) (by decide) (backOfS (W := 0) (rm1 l Z a0 hw [] cx p2 h0 n0 O0 ) hZ (ox hw 4 rfl) (ox hw 3 rfl) (by decide) (by decide)) (g := (mkF m 9 #[vI p1, vI p2, vI p3, vI p4, vI p5, vI ((p1 &&& (2147483647 : Int32)) % (4 : Int32)), vU, vU, vU, vU, vU, vU, vU, vU] [(.int p2)])) rfl (by rw [hml]; rfl) (argsL := [(.int p2)]) (rest := []) (lenOf pd_30 rfl) rfl own_le0 (hb hby at_9) (fun _ _ => ⟨rfl, e0, (by decide : 0 + 5 ≤ _), (by decide : 0 + 23 ≤ _)⟩)
  dsimp only [Pt.U, Pt.locs, Pt.cells, Pt.slots] at X22 l22 y22 z22 st22 hQ22 hSn22 hgn22
  subst l22 y22 z22
  have hS22 := foldS (vm0 := s.vm) hS0 (by rw [e0]; exact hk0) hSn22 hgn22
  have hZ : Z.Warmed39 (s.setVm T22.vm).vm := State.Warmed39.trans (t := s.setVm s.vm) hZ hSn22.1
  have hown : (s.setVm T22.vm).vm.findClass sk11 = some m.cls := by
    show T22.vm.findClass _ = _
    rw [hSn22.1.alike.findClass]; exact hown
  have X22 : Stand p l e room_1 (s.setVm T22.vm) m #[(.int p1), (.int p2), (.int p3), (.int p4), (.int p5)] below meth c T22 _ _ _ := X22
  have hkk22 : T22.heap.size ≤ T22.heap.size := Nat.le_refl _
  obtain ⟨b_22, rfl, Nq22, Kq22, fr22_0, fq22_0, fq22_1, fq22_2⟩ := hQ22
  have N23 := Fr.app N0 Nq22
  have gg24 : n0 ≤ b_22 := Nat.le_trans (O0.1 ▸ O0.2.1) fr22_0
  have O25 := O0.keep Kq22 all0
  have q26 := fun t (kt : Go p e below T22 (mkF m 15 #[vI p1, vI p2, vI p3, vI p4, vI p5, vI ((p1 &&& (2147483647 : Int32)) % (4 : Int32)), vR b_22, vU, vU, vU, vU, vU, vU, vU] [(.int p3)]) t) => q21 t (st22.trans (by
    show Go _ _ _ _ (mkF m 12 #[vI p1, vI p2, vI p3, vI p4, vI p5, vI ((p1 &&& (2147483647 : Int32)) % (4 : Int32)), vU, vU, vU, vU, vU, vU, vU, vU] [(.ref b_22)]) _
    refine XS.astore X22.here hx rfl (hb hby at_12) rfl rfl (l' := #[vI p1, vI p2, vI p3, vI p4, vI p5, vI ((p1 &&& (2147483647 : Int32)) % (4 : Int32)), vR b_22, vU, vU, vU, vU, vU, vU, vU]) rfl ?_
    show Go _ _ _ _ (mkF m 14 #[vI p1, vI p2, vI p3, vI p4, vI p5, vI ((p1 &&& (2147483647 : Int32)) % (4 : Int32)), vR b_22, vU, vU, vU, vU, vU, vU, vU] []) _
    refine XS.iloadN X22.here hx rfl (hb hby at_14) rfl ?_
    exact kt))
  obtain ⟨_, _, ⟨T27, L27, k27, n27⟩, -, X27, hSn27, hgn27, ⟨_, hQ27, l27, y27, z27⟩, st27⟩ := callSS X22 hx (y := ym7) hown (ow hZ hw 1 rfl) (ow hZ hw 2 rfl) (ow hZ hw 3 rfl) (ow hZ hw 4 rfl) (by decide) (backOfS (W := 0) (rm1 l Z a0 hw [] cx p3 T22.heap n0 O25 ) hZ (ox hw 4 rfl) (ox hw 3 rfl) (by decide) (by decide)) (g := (mkF m 15 #[vI p1, vI p2, vI p3, vI p4, vI p5, vI ((p1 &&& (2147483647 : Int32)) % (4 : Int32)), vR b_22, vU, vU, vU, vU, vU, vU, vU] [(.int p3)])) rfl (by rw [hml]; rfl) (argsL := [(.int p3)]) (rest := []) (lenOf pd_30 rfl) rfl own_le0 (hb hby at_15) (fun _ _ => ⟨rfl, rfl, (by decide : 5 + 5 ≤ _), (by decide : 23 + 23 ≤ _)⟩)
  dsimp only [Pt.U, Pt.locs, Pt.cells, Pt.slots] at X27 l27 y27 z27 st27 hQ27 hSn27 hgn27
  subst l27 y27 z27
  have hS27 := foldS (vm0 := T22.vm) hS22 hkk22 hSn27 hgn27
  have hZ : Z.Warmed39 (s.setVm T27.vm).vm := State.Warmed39.trans (t := s.setVm T22.vm) hZ hSn27.1
  have hown : (s.setVm T27.vm).vm.findClass sk11 = some m.cls := by
    show T27.vm.findClass _ = _
    rw [hSn27.1.alike.findClass]; exact hown
  have X27 : Stand p l e room_1 (s.setVm T27.vm) m #[(.int p1), (.int p2), (.int p3), (.int p4), (.int p5)] below meth c T27 _ _ _ := X27
  have hkk27 : T27.heap.size ≤ T27.heap.size := Nat.le_refl _
  obtain ⟨b_27, rfl, Nq27, Kq27, fr27_0, fq27_0, fq27_1, fq27_2⟩ := hQ27
  have N28 := Fr.app N23 Nq27
  have gg29 : n0 ≤ b_27 := Nat.le_trans (O25.1 ▸ O25.2.1) fr27_0
  have O30 := O25.keep Kq27 all0
  have q31 := fun t (kt : Go p e below T27 (mkF m 21 #[vI p1, vI p2, vI p3, vI p4, vI p5, vI ((p1 &&& (2147483647 : Int32)) % (4 : Int32)), vR b_22, vR b_27, vU, vU, vU, vU, vU, vU] [(.int p4)]) t) => q26 t (st27.trans (by
    show Go _ _ _ _ (mkF m 18 #[vI p1, vI p2, vI p3, vI p4, vI p5, vI ((p1 &&& (2147483647 : Int32)) % (4 : Int32)), vR b_22, vU, vU, vU, vU, vU, vU, vU] [(.ref b_27)]) _
    refine XS.astore X27.here hx rfl (hb hby at_18) rfl rfl (l' := #[vI p1, vI p2, vI p3, vI p4, vI p5, vI ((p1 &&& (2147483647 : Int32)) % (4 : Int32)), vR b_22, vR b_27, vU, vU, vU, vU, vU, vU]) rfl ?_
    show Go _ _ _ _ (mkF m 20 #[vI p1, vI p2, vI p3, vI p4, vI p5, vI ((p1 &&& (2147483647 : Int32)) % (4 : Int32)), vR b_22, vR b_27, vU, vU, vU, vU, vU, vU] []) _
    refine XS.iloadN X27.here hx rfl (hb hby at_20) rfl ?_
    exact kt))
  obtain ⟨_, _, ⟨T32, L32, k32, n32⟩, -, X32, hSn32, hgn32, ⟨_, hQ32, l32, y32, z32⟩, st32⟩ := callSS X27 hx (y := ym7) hown (ow hZ hw 1 rfl) (ow hZ hw 2 rfl) (ow hZ hw 3 rfl) (ow hZ hw 4 rfl) (by decide) (backOfS (W := 0) (rm1 l Z a0 hw [] cx p4 T27.heap n0 O30 ) hZ (ox hw 4 rfl) (ox hw 3 rfl) (by decide) (by decide)) (g := (mkF m 21 #[vI p1, vI p2, vI p3, vI p4, vI p5, vI ((p1 &&& (2147483647 : Int32)) % (4 : Int32)), vR b_22, vR b_27, vU, vU, vU, vU, vU, vU] [(.int p4)])) rfl (by rw [hml]; rfl) (argsL := [(.int p4)]) (rest := []) (lenOf pd_30 rfl) rfl own_le0 (hb hby at_21) (fun _ _ => ⟨rfl, rfl, (by decide : 10 + 5 ≤ _), (by decide : 46 + 23 ≤ _)⟩)
  dsimp only [Pt.U, Pt.locs, Pt.cells, Pt.slots] at X32 l32 y32 z32 st32 hQ32 hSn32 hgn32
  subst l32 y32 z32
  have hS32 := foldS (vm0 := T27.vm) hS27 hkk27 hSn32 hgn32
  have hZ : Z.Warmed39 (s.setVm T32.vm).vm := State.Warmed39.trans (t := s.setVm T27.vm) hZ hSn32.1
  have hown : (s.setVm T32.vm).vm.findClass sk11 = some m.cls := by
    show T32.vm.findClass _ = _
    rw [hSn32.1.alike.findClass]; exact hown
  have X32 : Stand p l e room_1 (s.setVm T32.vm) m #[(.int p1), (.int p2), (.int p3), (.int p4), (.int p5)] below meth c T32 _ _ _ := X32
  have hkk32 : T32.heap.size ≤ T32.heap.size := Nat.le_refl _
  obtain ⟨b_32, rfl, Nq32, Kq32, fr32_0, fq32_0, fq32_1, fq32_2⟩ := hQ32
  have N33 := Fr.app N28 Nq32
  have gg34 : n0 ≤ b_32 := Nat.le_trans (O30.1 ▸ O30.2.1) fr32_0
  have O35 := O30.keep Kq32 all0
  have q36 := fun t (kt : Go p e below T32 (mkF m 26 #[vI p1, vI p2, vI p3, vI p4, vI p5, vI ((p1 &&& (2147483647 : Int32)) % (4 : Int32)), vR b_22, vR b_27, vR b_32, vU, vU, vU, vU, vU] []) t) => q31 t (st32.trans (by
    show Go _ _ _ _ (mkF m 24 #[vI p1, vI p2, vI p3, vI p4, vI p5, vI ((p1 &&& (2147483647 : Int32)) % (4 : Int32)), vR b_22, vR b_27, vU, vU, vU, vU, vU, vU] [(.ref b_32)]) _
    refine XS.astore X32.here hx rfl (hb hby at_24) rfl rfl (l' := #[vI p1, vI p2, vI p3, vI p4, vI p5, vI ((p1 &&& (2147483647 : Int32)) % (4 : Int32)), vR b_22, vR b_27, vR b_32, vU, vU, vU, vU, vU]) rfl ?_
    exact kt))
  obtain ⟨T37, h37, X37, e37, E37, A37, D37, U37, st37⟩ := newO X32 hx hZ hown (ox hw 51 rfl) (ox hw 52 rfl) (ox hw 53 rfl) rfl (g := (mkF m 26 #[vI p1, vI p2, vI p3, vI p4, vI p5, vI ((p1 &&& (2147483647 : Int32)) % (4 : Int32)), vR b_22, vR b_27, vR b_32, vU, vU, vU, vU, vU] [])) rfl (hb hby at_26) (by decide) (by decide)
  obtain ⟨b37, g37⟩ : ∃ z, z = T32.heap.size := ⟨_, rfl⟩
  rw [← g37] at A37 D37 st37
  have gg38 : n0 ≤ b37 := Nat.le_trans (O35.1 ▸ O35.2.1) (Nat.le_of_eq g37.symm)
  have O39 := O35.ext E37
  have hk40 : _ ≤ h37.size := Nat.le_trans hkk32 E37.1
  have F37_modCount : Fld Z h37 b37 sk17 "modCount" "I" (.int 0) := D37 (Or.inl (ox hw 71 rfl)) (ty := .int) (by decide)
  have F37_elementData : Fld Z h37 b37 sk18 sk12 sk6 .null := D37 (Or.inl (ox hw 74 rfl)) (ty := (.array (.object sk14))) (by decide)
  have F37_size : Fld Z h37 b37 sk18 "size" "I" (.int 0) := D37 (Or.inl (ox hw 106 rfl)) (ty := .int) (by decide)
  have q41 := fun t (kt : Go p e below T37 (mkF m 30 #[vI p1, vI p2, vI p3, vI p4, vI p5, vI ((p1 &&& (2147483647 : Int32)) % (4 : Int32)), vR b_22, vR b_27, vR b_32, vU, vU, vU, vU, vU] [(.ref b37), (.ref b37)]) t) => q36 t (st37 t (by
    show Go _ _ _ _ (mkF m 29 #[vI p1, vI p2, vI p3, vI p4, vI p5, vI ((p1 &&& (2147483647 : Int32)) % (4 : Int32)), vR b_22, vR b_27, vR b_32, vU, vU, vU, vU, vU] [(.ref b37)]) _
    refine XS.dup X37.here hx rfl (hb hby at_29) rfl rfl ?_
    exact kt))
  obtain ⟨_, _, ⟨T42, L42, k42, n42⟩, -, X42, ⟨_, hQ42, l42, y42, z42⟩, st42⟩ := X37.specialBack hx (y := ym3) rfl hown (ow hZ hw 54 rfl) (ow hZ hw 55 rfl) (ow hZ hw 56 rfl) (by decide) (backOf (W := 1) (rm7 l Z a0 hw [] cx b37 h37 n0 O39 A37 F37_modCount F37_elementData F37_size gg38) hZ (ox hw 56 rfl) (ox hw 53 rfl) (by decide) (by decide)) (g := (mkF m 30 #[vI p1, vI p2, vI p3, vI p4, vI p5, vI ((p1 &&& (2147483647 : Int32)) % (4 : Int32)), vR b_22, vR b_27, vR b_32, vU, vU, vU, vU, vU] [(.ref b37), (.ref b37)])) rfl (by rw [hml]; rfl) (Steps.refl _) (a := b37) (argsL := []) (rest := [(.ref b37)]) (lenOf pd_0 rfl) rfl own_le0 (hb hby at_30) (fun _ _ => ⟨rfl, e37, (by decide : 16 + 0 ≤ _), (by decide : 72 + 0 ≤ _)⟩)
  dsimp only [Pt.U, Pt.locs, Pt.cells, Pt.slots] at X42 l42 y42 z42 st42 hQ42
  subst l42 y42 z42
  obtain ⟨rfl, Nq42, Kq42, fq42_0, fq42_1, fq42_2⟩ := hQ42
  have N43 := Fr.app N33 Nq42
  have O44 := O39.keep Kq42 (allS gg38 all0)
  have hk45 : _ ≤ T42.heap.size := Nat.le_trans hk40 Kq42.1
  have q46 := fun t (kt : Go p e below T42 (mkF m 35 #[vI p1, vI p2, vI p3, vI p4, vI p5, vI ((p1 &&& (2147483647 : Int32)) % (4 : Int32)), vR b_22, vR b_27, vR b_32, vR b37, vU, vU, vU, vU] []) t) => q41 t (st42.trans (by
    show Go _ _ _ _ (mkF m 33 #[vI p1, vI p2, vI p3, vI p4, vI p5, vI ((p1 &&& (2147483647 : Int32)) % (4 : Int32)), vR b_22, vR b_27, vR b_32, vU, vU, vU, vU, vU] [(.ref b37)]) _
    refine XS.astore X42.here hx rfl (hb hby at_33) rfl rfl (l' := #[vI p1, vI p2, vI p3, vI p4, vI p5, vI ((p1 &&& (2147483647 : Int32)) % (4 : Int32)), vR b_22, vR b_27, vR b_32, vR b37, vU, vU, vU, vU]) rfl ?_
    exact kt))
  obtain ⟨T47, h47, X47, e47, E47, A47, D47, U47, st47⟩ := newO X42 hx hZ hown (ox hw 51 rfl) (ox hw 52 rfl) (ox hw 53 rfl) rfl (g := (mkF m 35 #[vI p1, vI p2, vI p3, vI p4, vI p5, vI ((p1 &&& (2147483647 : Int32)) % (4 : Int32)), vR b_22, vR b_27, vR b_32, vR b37, vU, vU, vU, vU] [])) rfl (hb hby at_35) (by decide) (by decide)
  obtain ⟨b47, g47⟩ : ∃ z, z = T42.heap.size := ⟨_, rfl⟩
  rw [← g47] at A47 D47 st47
  have gg48 : n0 ≤ b47 := Nat.le_trans (O44.1 ▸ O44.2.1) (Nat.le_of_eq g47.symm)
  have O49 := O44.ext E47
  have hk50 : _ ≤ h47.size := Nat.le_trans hk45 E47.1
  have F47_modCount : Fld Z h47 b47 sk17 "modCount" "I" (.int 0) := D47 (Or.inl (ox hw 71 rfl)) (ty := .int) (by decide)
  have F47_elementData : Fld Z h47 b47 sk18 sk12 sk6 .null := D47 (Or.inl (ox hw 74 rfl)) (ty := (.array (.object sk14))) (by decide)
  have F47_size : Fld Z h47 b47 sk18 "size" "I" (.int 0) := D47 (Or.inl (ox hw 106 rfl)) (ty := .int) (by decide)
  have q51 := fun t (kt : Go p e below T47 (mkF m 39 #[vI p1, vI p2, vI p3, vI p4, vI p5, vI ((p1 &&& (2147483647 : Int32)) % (4 : Int32)), vR b_22, vR b_27, vR b_32, vR b37, vU, vU, vU, vU] [(.ref b47), (.ref b47)]) t) => q46 t (st47 t (by
    show Go _ _ _ _ (mkF m 38 #[vI p1, vI p2, vI p3, vI p4, vI p5, vI ((p1 &&& (2147483647 : Int32)) % (4 : Int32)), vR b_22, vR b_27, vR b_32, vR b37, vU, vU, vU, vU] [(.ref b47)]) _
    refine XS.dup X47.here hx rfl (hb hby at_38) rfl rfl ?_
    exact kt))
  obtain ⟨_, _, ⟨T52, L52, k52, n52⟩, -, X52, ⟨_, hQ52, l52, y52, z52⟩, st52⟩ := X47.specialBack hx (y := ym3) rfl hown (ow hZ hw 54 rfl) (ow hZ hw 55 rfl) (ow hZ hw 56 rfl) (by decide) (backOf (W := 1) (rm7 l Z a0 hw [] cx b47 h47 n0 O49 A47 F47_modCount F47_elementData F47_size gg48) hZ (ox hw 56 rfl) (ox hw 53 rfl) (by decide) (by decide)) (g := (mkF m 39 #[vI p1, vI p2, vI p3, vI p4, vI p5, vI ((p1 &&& (2147483647 : Int32)) % (4 : Int32)), vR b_22, vR b_27, vR b_32, vR b37, vU, vU, vU, vU] [(.ref b47), (.ref b47)])) rfl (by rw [hml]; rfl) (Steps.refl _) (a := b47) (argsL := []) (rest := [(.ref b47)]) (lenOf pd_0 rfl) rfl own_le0 (hb hby at_39) (fun _ _ => ⟨rfl, e47, (by decide : 17 + 0 ≤ _), (by decide : 75 + 0 ≤ _)⟩)
  dsimp only [Pt.U, Pt.locs, Pt.cells, Pt.slots] at X52 l52 y52 z52 st52 hQ52
  subst l52 y52 z52
  obtain ⟨rfl, Nq52, Kq52, fq52_0, fq52_1, fq52_2⟩ := hQ52
  have N53 := Fr.app N43 Nq52
  have O54 := O49.keep Kq52 (allS gg48 all0)
  have hk55 : _ ≤ T52.heap.size := Nat.le_trans hk50 Kq52.1
  have q56 := fun t (kt : Go p e below T52 (mkF m 47 #[vI p1, vI p2, vI p3, vI p4, vI p5, vI ((p1 &&& (2147483647 : Int32)) % (4 : Int32)), vR b_22, vR b_27, vR b_32, vR b37, vR b47, vU, vU, vU] [(.int 1), (.int ((p1 &&& (2147483647 : Int32)) % (4 : Int32)))]) t) => q51 t (st52.trans (by
    show Go _ _ _ _ (mkF m 42 #[vI p1, vI p2, vI p3, vI p4, vI p5, vI ((p1 &&& (2147483647 : Int32)) % (4 : Int32)), vR b_22, vR b_27, vR b_32, vR b37, vU, vU, vU, vU] [(.ref b47)]) _
    refine XS.astore X52.here hx rfl (hb hby at_42) rfl rfl (l' := #[vI p1, vI p2, vI p3, vI p4, vI p5, vI ((p1 &&& (2147483647 : Int32)) % (4 : Int32)), vR b_22, vR b_27, vR b_32, vR b37, vR b47, vU, vU, vU]) rfl ?_
    show Go _ _ _ _ (mkF m 44 #[vI p1, vI p2, vI p3, vI p4, vI p5, vI ((p1 &&& (2147483647 : Int32)) % (4 : Int32)), vR b_22, vR b_27, vR b_32, vR b37, vR b47, vU, vU, vU] []) _
    refine XS.iload X52.here hx rfl (hb hby at_44) rfl ?_
    show Go _ _ _ _ (mkF m 46 _ [(.int ((p1 &&& (2147483647 : Int32)) % (4 : Int32)))]) _
    refine XS.iconst X52.here hx rfl (hb hby at_46) ?_
    exact kt))
  by_cases hc57 : ((p1 &&& (2147483647 : Int32)) % (4 : Int32)) < (1 : Int32)
  · have q58 := fun t (kt : Go p e below T52 (mkF m 86 #[vI p1, vI p2, vI p3, vI p4, vI p5, vI ((p1 &&& (2147483647 : Int32)) % (4 : Int32)), vR b_22, vR b_27, vR b_32, vR b37, vR b47, vU, vU, vU] []) t) => q56 t (by
      show Go _ _ _ _ (mkF m 47 #[vI p1, vI p2, vI p3, vI p4, vI p5, vI ((p1 &&& (2147483647 : Int32)) % (4 : Int32)), vR b_22, vR b_27, vR b_32, vR b37, vR b47, vU, vU, vU] [(.int 1), (.int ((p1 &&& (2147483647 : Int32)) % (4 : Int32)))]) _
      refine XS.icmpYes X52.here hx rfl (pc0 := 47) (pc' := 58) rfl (hb hby at_47) rfl (tlt hc57).1 (by decide) (by decide) ?_
      show Go _ _ _ _ (mkF m 58 _ []) _
      refine XS.iload X52.here hx rfl (hb hby at_58) rfl ?_
      show Go _ _ _ _ (mkF m 60 _ [(.int ((p1 &&& (2147483647 : Int32)) % (4 : Int32)))]) _
      refine XS.iconst X52.here hx rfl (hb hby at_60) ?_
      show Go _ _ _ _ (mkF m 61 _ [(.int 2), (.int ((p1 &&& (2147483647 : Int32)) % (4 : Int32)))]) _
      refine XS.icmpYes X52.here hx rfl (pc0 := 61) (pc' := 72) rfl (hb hby at_61) rfl (tlt (own_lt12 hc57)).1 (by decide) (by decide) ?_
      show Go _ _ _ _ (mkF m 72 _ []) _
      refine XS.iload X52.here hx rfl (hb hby at_72) rfl ?_
      show Go _ _ _ _ (mkF m 74 _ [(.int ((p1 &&& (2147483647 : Int32)) % (4 : Int32)))]) _
      refine XS.iconst X52.here hx rfl (hb hby at_74) ?_
      show Go _ _ _ _ (mkF m 75 _ [(.int 3), (.int ((p1 &&& (2147483647 : Int32)) % (4 : Int32)))]) _
      refine XS.icmpYes X52.here hx rfl (pc0 := 75) (pc' := 86) rfl (hb hby at_75) rfl (tlt (own_lt23 (own_lt12 hc57))).1 (by decide) (by decide) ?_
      exact kt)
    obtain ⟨T59, h59, lo59, vv, ob, X59, e59, O59, N59, sk59, mf59_0, mf59_1, q59⟩ : ∃ (T59 : State) (h59 : Heap) (lo59 : List Loc) (vv : Addr) (ob : Addr), Stand p l e room_1 (s.setVm T32.vm) m #[(.int p1), (.int p2), (.int p3), (.int p4), (.int p5)] below meth c T59 lo59 29 135 ∧ T59.heap = h59 ∧ Old Z n0 h59 ∧ Fr n0 lo59 ∧ T52.heap.size ≤ h59.size ∧ Exa Z h59 ob sk24 ∧ Fld Z h59 ob sk24 "value" sk3 (own_find (cw 1) []) ∧ ∀ t, Go p e below T59 (mkF m 131 #[vI p1, vI p2, vI p3, vI p4, vI p5, vI ((p1 &&& (2147483647 : Int32)) % (4 : Int32)), vR b_22, vR b_27, vR b_32, vR b37, vR b47, vR vv, vR ob, vU] []) t → Go p e below s₁ (entryFrame m #[(.int p1), (.int p2), (.int p3), (.int p4), (.int p5)] maxLocals) t := by
      skip
      have q60 := fun t (kt : Go p e below T52 (mkF m 90 #[vI p1, vI p2, vI p3, vI p4, vI p5, vI ((p1 &&& (2147483647 : Int32)) % (4 : Int32)), vR b_22, vR b_27, vR b_32, vR b37, vR b47, vU, vU, vU] [(.int (p5 &&& (1 : Int32)))]) t) => q58 t (by
        show Go _ _ _ _ (mkF m 86 #[vI p1, vI p2, vI p3, vI p4, vI p5, vI ((p1 &&& (2147483647 : Int32)) % (4 : Int32)), vR b_22, vR b_27, vR b_32, vR b37, vR b47, vU, vU, vU] []) _
        refine XS.iload X52.here hx rfl (hb hby at_86) rfl ?_
        show Go _ _ _ _ (mkF m 88 _ [(.int p5)]) _
        refine XS.iconst X52.here hx rfl (hb hby at_88) ?_
        show Go _ _ _ _ (mkF m 89 _ [(.int 1), (.int p5)]) _
        refine XS.iand X52.here hx rfl (hb hby at_89) rfl ?_
        exact kt)
      by_cases hc61 : (p5 &&& (1 : Int32)) = (0 : Int32)
      · have q62 := fun t (kt : Go p e below T52 (mkF m 111 #[vI p1, vI p2, vI p3, vI p4, vI p5, vI ((p1 &&& (2147483647 : Int32)) % (4 : Int32)), vR b_22, vR b_27, vR b_32, vR b37, vR b47, vU, vU, vU] []) t) => q60 t (by
          show Go _ _ _ _ (mkF m 90 #[vI p1, vI p2, vI p3, vI p4, vI p5, vI ((p1 &&& (2147483647 : Int32)) % (4 : Int32)), vR b_22, vR b_27, vR b_32, vR b37, vR b47, vU, vU, vU] [(.int (p5 &&& (1 : Int32)))]) _
          refine XS.ifYes X52.here hx rfl (pc0 := 90) (pc' := 111) rfl (hb hby at_90) rfl ((if0 _ _).trans (teq hc61).1) (by decide) (by decide) ?_
          exact kt)
        obtain ⟨T63, h63, X63, e63, E63, A63, D63, U63, st63⟩ := newO X52 hx hZ hown (ox hw 75 rfl) (ox hw 76 rfl) (ox hw 77 rfl) rfl (g := (mkF m 111 #[vI p1, vI p2, vI p3, vI p4, vI p5, vI ((p1 &&& (2147483647 : Int32)) % (4 : Int32)), vR b_22, vR b_27, vR b_32, vR b37, vR b47, vU, vU, vU] [])) rfl (hb hby at_111) (by decide) (by decide)
        obtain ⟨b63, g63⟩ : ∃ z, z = T52.heap.size := ⟨_, rfl⟩
        rw [← g63] at A63 D63 st63
        have gg64 : n0 ≤ b63 := Nat.le_trans (O54.1 ▸ O54.2.1) (Nat.le_of_eq g63.symm)
        have O65 := O54.ext E63
        have hk66 : _ ≤ h63.size := Nat.le_trans hk55 E63.1
        have F63_outcomes : Fld Z h63 b63 sk8 "outcomes" sk5 .null := D63 (Or.inr (ox hw 112 rfl)) (ty := (.object sk23)) (by decide)
        have F63_notes : Fld Z h63 b63 sk8 "notes" sk5 .null := D63 (Or.inr (ox hw 114 rfl)) (ty := (.object sk23)) (by decide)
        have f67 := ((((A37.keep Kq42).ext E47).keep Kq52).ext E63)
        have ne68 : b37 ≠ b47 := (Nat.ne_of_lt (Nat.lt_of_lt_of_le (A37.keep Kq42).lt (Nat.le_of_eq g47.symm)))
        have f69 := (((fq42_2.ext E47).keep Kq52 (ninS ne68 nin0)).ext E63)
        have f70 := ((A47.keep Kq52).ext E63)
        have f71 := (fq52_2.ext E63)
        have q72 := fun t (kt : Go p e below T63 (mkF m 119 #[vI p1, vI p2, vI p3, vI p4, vI p5, vI ((p1 &&& (2147483647 : Int32)) % (4 : Int32)), vR b_22, vR b_27, vR b_32, vR b37, vR b47, vU, vU, vU] [(.ref b47), (.ref b37), (.ref b63), (.ref b63)]) t) => q62 t (st63 t (by
          show Go _ _ _ _ (mkF m 114 #[vI p1, vI p2, vI p3, vI p4, vI p5, vI ((p1 &&& (2147483647 : Int32)) % (4 : Int32)), vR b_22, vR b_27, vR b_32, vR b37, vR b47, vU, vU, vU] [(.ref b63)]) _
          refine XS.dup X63.here hx rfl (hb hby at_114) rfl rfl ?_
          show Go _ _ _ _ (mkF m 115 _ [(.ref b63), (.ref b63)]) _
          refine XS.aload X63.here hx rfl (hb hby at_115) rfl rfl ?_
          show Go _ _ _ _ (mkF m 117 _ [(.ref b37), (.ref b63), (.ref b63)]) _
          refine XS.aload X63.here hx rfl (hb hby at_117) rfl rfl ?_
          exact kt))
        obtain ⟨_, _, ⟨T73, L73, k73, n73⟩, -, X73, ⟨_, hQ73, l73, y73, z73⟩, st73⟩ := X63.specialBack hx (y := ym35) rfl hown (ow hZ hw 78 rfl) (ow hZ hw 79 rfl) (ow hZ hw 80 rfl) (by decide) (backOf (W := 1) (rm10_00 l Z a0 hw [] cx b63 b37 b47 h63 n0 O65 A63 F63_outcomes F63_notes f67 f69 f70 f71 gg64) hZ (ox hw 80 rfl) (ox hw 77 rfl) (by decide) (by decide)) (g := (mkF m 119 #[vI p1, vI p2, vI p3, vI p4, vI p5, vI ((p1 &&& (2147483647 : Int32)) % (4 : Int32)), vR b_22, vR b_27, vR b_32, vR b37, vR b47, vU, vU, vU] [(.ref b47), (.ref b37), (.ref b63), (.ref b63)])) rfl (by rw [hml]; rfl) (Steps.refl _) (a := b63) (argsL := [(.ref b37), (.ref b47)]) (rest := [(.ref b63)]) (lenOf pd_31 rfl) rfl own_le0 (hb hby at_119) (fun _ _ => ⟨rfl, e63, (by decide : 18 + 0 ≤ _), (by decide : 77 + 0 ≤ _)⟩)
        dsimp only [Pt.U, Pt.locs, Pt.cells, Pt.slots] at X73 l73 y73 z73 st73 hQ73
        subst l73 y73 z73
        obtain ⟨rfl, Nq73, Kq73, fq73_0⟩ := hQ73
        have N74 := Fr.app N53 Nq73
        have O75 := O65.keep Kq73 (allS gg64 all0)
        have hk76 : _ ≤ T73.heap.size := Nat.le_trans hk66 Kq73.1
        have q77 := fun t (kt : Go p e below T73 (mkF m 126 #[vI p1, vI p2, vI p3, vI p4, vI p5, vI ((p1 &&& (2147483647 : Int32)) % (4 : Int32)), vR b_22, vR b_27, vR b_32, vR b37, vR b47, vR b63, vU, vU] [(.ref b63)]) t) => q72 t (st73.trans (by
          show Go _ _ _ _ (mkF m 122 #[vI p1, vI p2, vI p3, vI p4, vI p5, vI ((p1 &&& (2147483647 : Int32)) % (4 : Int32)), vR b_22, vR b_27, vR b_32, vR b37, vR b47, vU, vU, vU] [(.ref b63)]) _
          refine XS.astore X73.here hx rfl (hb hby at_122) rfl rfl (l' := #[vI p1, vI p2, vI p3, vI p4, vI p5, vI ((p1 &&& (2147483647 : Int32)) % (4 : Int32)), vR b_22, vR b_27, vR b_32, vR b37, vR b47, vR b63, vU, vU]) rfl ?_
          show Go _ _ _ _ (mkF m 124 #[vI p1, vI p2, vI p3, vI p4, vI p5, vI ((p1 &&& (2147483647 : Int32)) % (4 : Int32)), vR b_22, vR b_27, vR b_32, vR b37, vR b47, vR b63, vU, vU] []) _
          refine XS.aload X73.here hx rfl (hb hby at_124) rfl rfl ?_
          exact kt))
        have f80 := (A63.keep Kq73)
        obtain ⟨cq79, kq79, q79a, q79b, q79c⟩ := isOf hZ rfl f80
        obtain ⟨_, _, ⟨T78, L78, k78, n78⟩, -, X78, ⟨_, hQ78, l78, y78, z78⟩, st78⟩ := X73.virtualBack hx (y := ym54) (z := ym54) hown (ow hZ hw 115 rfl) (ow hZ hw 116 rfl) (notFace_of_selects (args := #[]) (ow hZ hw 118 rfl)) (ow hZ hw 118 rfl) (ow hZ hw 117 rfl) (by decide) (backOf (W := 0) (rm15_0 l Z a0 hw [] cx b63 (cw 15) (cw 16) (cw 17) T73.heap n0 O75 fq73_0 (cx.2.2.2.2.2.2.2.2.2.2.2.2.2.2.2.2.2.2.2.2.2.2.2.2.2.2.2.2.2.2.2.2.1.ext O75.2) (cx.2.2.2.2.2.2.2.2.2.2.2.2.2.2.2.2.2.2.2.2.2.2.2.2.2.2.2.2.2.2.2.2.2.1.ext O75.2) (cx.2.2.2.2.2.2.2.2.2.2.2.2.2.2.2.2.2.2.2.2.2.2.2.2.2.2.2.2.2.2.2.2.2.2.1.ext O75.2)) hZ (ox hw 119 rfl) (ox hw 77 rfl) (by decide) (by decide)) q79a q79c (g := (mkF m 126 #[vI p1, vI p2, vI p3, vI p4, vI p5, vI ((p1 &&& (2147483647 : Int32)) % (4 : Int32)), vR b_22, vR b_27, vR b_32, vR b37, vR b47, vR b63, vU, vU] [(.ref b63)])) rfl (by rw [hml]; rfl) (Steps.refl _) (argsL := []) (rest := []) (lenOf pd_25 rfl) rfl own_le0 (hb hby at_126) (fun _ _ => ⟨rfl, rfl, (by decide : 18 + 1 ≤ _), (by decide : 77 + 4 ≤ _)⟩)
        dsimp only [Pt.U, Pt.locs, Pt.cells, Pt.slots] at X78 l78 y78 z78 st78 hQ78
        subst l78 y78 z78
        obtain ⟨b_78, rfl, Nq78, Kq78, fq78_0, fq78_1⟩ := hQ78
        have N81 := Fr.app N74 Nq78
        have O82 := O75.keep Kq78 all0
        have hk83 : _ ≤ T78.heap.size := Nat.le_trans hk76 Kq78.1
        have q84 := fun t (kt : Go p e below T78 (mkF m 131 #[vI p1, vI p2, vI p3, vI p4, vI p5, vI ((p1 &&& (2147483647 : Int32)) % (4 : Int32)), vR b_22, vR b_27, vR b_32, vR b37, vR b47, vR b63, vR b_78, vU] []) t) => q77 t (st78.trans (by
          show Go _ _ _ _ (mkF m 129 #[vI p1, vI p2, vI p3, vI p4, vI p5, vI ((p1 &&& (2147483647 : Int32)) % (4 : Int32)), vR b_22, vR b_27, vR b_32, vR b37, vR b47, vR b63, vU, vU] [(.ref b_78)]) _
          refine XS.astore X78.here hx rfl (hb hby at_129) rfl rfl (l' := #[vI p1, vI p2, vI p3, vI p4, vI p5, vI ((p1 &&& (2147483647 : Int32)) % (4 : Int32)), vR b_22, vR b_27, vR b_32, vR b37, vR b47, vR b63, vR b_78, vU]) rfl ?_
          exact kt))
        exact ⟨T78, T78.heap, _, b63, b_78, X78.mono (by decide) (by decide), rfl, O82, N81, (Nat.le_trans (Nat.le_trans (Nat.le_trans (Nat.le_refl _) E63.1) Kq73.1) Kq78.1), fq78_0, fq78_1, q84⟩
      · have q85 := fun t (kt : Go p e below T52 (mkF m 104 #[vI p1, vI p2, vI p3, vI p4, vI p5, vI ((p1 &&& (2147483647 : Int32)) % (4 : Int32)), vR b_22, vR b_27, vR b_32, vR b37, vR b47, vU, vU, vU] [(.int ((((p5.toUInt32 >>> ((1 : Int32) &&& 31).toUInt32).toInt32) &&& (255 : Int32)).toUInt32.toUInt16.toUInt32.toInt32)), (.ref b47)]) t) => q60 t (by
          show Go _ _ _ _ (mkF m 90 #[vI p1, vI p2, vI p3, vI p4, vI p5, vI ((p1 &&& (2147483647 : Int32)) % (4 : Int32)), vR b_22, vR b_27, vR b_32, vR b37, vR b47, vU, vU, vU] [(.int (p5 &&& (1 : Int32)))]) _
          refine XS.ifNo X52.here hx rfl (hb hby at_90) rfl ((if0 _ _).trans (feq hc61).1) ?_
          show Go _ _ _ _ (mkF m 93 _ []) _
          refine XS.aload X52.here hx rfl (hb hby at_93) rfl rfl ?_
          show Go _ _ _ _ (mkF m 95 _ [(.ref b47)]) _
          refine XS.iload X52.here hx rfl (hb hby at_95) rfl ?_
          show Go _ _ _ _ (mkF m 97 _ [(.int p5), (.ref b47)]) _
          refine XS.iconst X52.here hx rfl (hb hby at_97) ?_
          show Go _ _ _ _ (mkF m 98 _ [(.int 1), (.int p5), (.ref b47)]) _
          refine XS.iushr X52.here hx rfl (hb hby at_98) rfl ?_
          show Go _ _ _ _ (mkF m 99 _ [(.int ((p5.toUInt32 >>> ((1 : Int32) &&& 31).toUInt32).toInt32)), (.ref b47)]) _
          refine XS.sipush X52.here hx rfl (hb hby at_99) ?_
          show Go _ _ _ _ (mkF m 102 _ [(.int 255), (.int ((p5.toUInt32 >>> ((1 : Int32) &&& 31).toUInt32).toInt32)), (.ref b47)]) _
          refine XS.iand X52.here hx rfl (hb hby at_102) rfl ?_
          show Go _ _ _ _ (mkF m 103 _ [(.int (((p5.toUInt32 >>> ((1 : Int32) &&& 31).toUInt32).toInt32) &&& (255 : Int32))), (.ref b47)]) _
          refine XS.i2c X52.here hx rfl (hb hby at_103) rfl ?_
          exact kt)
        have q86 := fun t (kt : Go p e below T52 (mkF m 104 #[vI p1, vI p2, vI p3, vI p4, vI p5, vI ((p1 &&& (2147483647 : Int32)) % (4 : Int32)), vR b_22, vR b_27, vR b_32, vR b37, vR b47, vU, vU, vU] [(.int (((p5.toUInt32 >>> ((1 : Int32) &&& 31).toUInt32).toInt32) &&& (255 : Int32))), (.ref b47)]) t) => q85 t (by rw [(i2c_mask ((p5.toUInt32 >>> ((1 : Int32) &&& 31).toUInt32).toInt32))]; exact kt)
        obtain ⟨_, _, ⟨T87, L87, k87, n87⟩, -, X87, ⟨_, hQ87, l87, y87, z87⟩, st87⟩ := Jvm.LawKit.callS X52 hx (y := ym16) hown (ow hZ hw 213 rfl) (ow hZ hw 214 rfl) (ow hZ hw 12 rfl) (ow hZ hw 215 rfl) (by decide) (backOf (W := 1) (rm27 l Z a0 hw [] cx (((p5.toUInt32 >>> ((1 : Int32) &&& 31).toUInt32).toInt32) &&& (255 : Int32)) T52.heap n0 O54 (own_and255 _)) hZ (ox hw 215 rfl) (ox hw 12 rfl) (by decide) (by decide)) (g := (mkF m 104 #[vI p1, vI p2, vI p3, vI p4, vI p5, vI ((p1 &&& (2147483647 : Int32)) % (4 : Int32)), vR b_22, vR b_27, vR b_32, vR b37, vR b47, vU, vU, vU] [(.int (((p5.toUInt32 >>> ((1 : Int32) &&& 31).toUInt32).toInt32) &&& (255 : Int32))), (.ref b47)])) rfl (by rw [hml]; rfl) (argsL := [(.int (((p5.toUInt32 >>> ((1 : Int32) &&& 31).toUInt32).toInt32) &&& (255 : Int32)))]) (rest := [(.ref b47)]) (lenOf pd_32 rfl) rfl own_le0 (hb hby at_104) (fun _ _ => ⟨rfl, rfl, (by decide : 17 + 2 ≤ _), (by decide : 75 + 5 ≤ _)⟩)
        dsimp only [Pt.U, Pt.locs, Pt.cells, Pt.slots] at X87 l87 y87 z87 st87 hQ87
        subst l87 y87 z87
        obtain ⟨b_87, rfl, Nq87, Kq87, fr87_0, fq87_0⟩ := hQ87
        have N88 := Fr.app N53 Nq87
        have gg89 : n0 ≤ b_87 := Nat.le_trans (O54.1 ▸ O54.2.1) fr87_0
        have O90 := O54.keep Kq87 all0
        have hk91 : _ ≤ T87.heap.size := Nat.le_trans hk55 Kq87.1
        have f92 := ((A47.keep Kq52).keep Kq87)
        have f93 := (fq52_0.keep Kq87 nin0)
        have f94 := (fq52_1.keep Kq87 nin0)
        have f95 := (fq52_2.keep Kq87 nin0)
        obtain ⟨cq97, kq97, q97a, q97b, q97c⟩ := isOf hZ rfl f92
        obtain ⟨_, _, ⟨T96, L96, k96, n96⟩, -, X96, ⟨_, hQ96, l96, y96, z96⟩, st96⟩ := X87.virtualBack hx (y := ym12) (z := ym12) hown (ow hZ hw 184 rfl) (ow hZ hw 185 rfl) (notFace_of_selects (args := #[]) (ow hZ hw 187 rfl)) (ow hZ hw 187 rfl) (ow hZ hw 186 rfl) (by decide) (backOf (W := 0) (rm22_0 l Z a0 hw [] cx (sk15) b47 b_87 (0 : Int32) T87.heap n0 O90 f92 fq87_0 f93 f94 f95 gg48 (ox hw 232 rfl)) hZ (ox hw 188 rfl) (ox hw 53 rfl) (by decide) (by decide)) q97a q97c (g := (mkF m 107 #[vI p1, vI p2, vI p3, vI p4, vI p5, vI ((p1 &&& (2147483647 : Int32)) % (4 : Int32)), vR b_22, vR b_27, vR b_32, vR b37, vR b47, vU, vU, vU] [(.ref b_87), (.ref b47)])) rfl (by rw [hml]; rfl) (Steps.refl _) (argsL := [(.ref b_87)]) (rest := []) (lenOf pd_33 rfl) rfl own_le0 (hb hby at_107) (fun _ _ => ⟨rfl, rfl, (by decide : 19 + 1 ≤ _), (by decide : 80 + 10 ≤ _)⟩)
        dsimp only [Pt.U, Pt.locs, Pt.cells, Pt.slots] at X96 l96 y96 z96 st96 hQ96
        subst l96 y96 z96
        obtain ⟨b_96, kb_96, z'_96, rfl, Nq96, Kq96, fr96_0, fq96_0, fq96_1, fq96_2, fq96_3, fq96_4, pq96_0⟩ := hQ96
        have N98 := Fr.app N88 Nq96
        have gg99 : n0 ≤ b_96 := Nat.le_trans (O90.1 ▸ O90.2.1) fr96_0
        have O100 := O90.keep Kq96 (allS gg48 all0)
        have hk101 : _ ≤ T96.heap.size := Nat.le_trans hk91 Kq96.1
        have q102 := fun t (kt : Go p e below T96 (mkF m 111 #[vI p1, vI p2, vI p3, vI p4, vI p5, vI ((p1 &&& (2147483647 : Int32)) % (4 : Int32)), vR b_22, vR b_27, vR b_32, vR b37, vR b47, vU, vU, vU] []) t) => q86 t (st87 t (st96.trans (by
          show Go _ _ _ _ (mkF m 110 #[vI p1, vI p2, vI p3, vI p4, vI p5, vI ((p1 &&& (2147483647 : Int32)) % (4 : Int32)), vR b_22, vR b_27, vR b_32, vR b37, vR b47, vU, vU, vU] [(.int 1)]) _
          refine XS.pop X96.here hx rfl (hb hby at_110) rfl rfl ?_
          exact kt)))
        obtain ⟨T103, h103, X103, e103, E103, A103, D103, U103, st103⟩ := newO X96 hx hZ hown (ox hw 75 rfl) (ox hw 76 rfl) (ox hw 77 rfl) rfl (g := (mkF m 111 #[vI p1, vI p2, vI p3, vI p4, vI p5, vI ((p1 &&& (2147483647 : Int32)) % (4 : Int32)), vR b_22, vR b_27, vR b_32, vR b37, vR b47, vU, vU, vU] [])) rfl (hb hby at_111) (by decide) (by decide)
        obtain ⟨b103, g103⟩ : ∃ z, z = T96.heap.size := ⟨_, rfl⟩
        rw [← g103] at A103 D103 st103
        have gg104 : n0 ≤ b103 := Nat.le_trans (O100.1 ▸ O100.2.1) (Nat.le_of_eq g103.symm)
        have O105 := O100.ext E103
        have hk106 : _ ≤ h103.size := Nat.le_trans hk101 E103.1
        have F103_outcomes : Fld Z h103 b103 sk8 "outcomes" sk5 .null := D103 (Or.inr (ox hw 112 rfl)) (ty := (.object sk23)) (by decide)
        have F103_notes : Fld Z h103 b103 sk8 "notes" sk5 .null := D103 (Or.inr (ox hw 114 rfl)) (ty := (.object sk23)) (by decide)
        have f107 := ((((((A37.keep Kq42).ext E47).keep Kq52).keep Kq87).keep Kq96).ext E103)
        have ne108 : b37 ≠ b47 := (Nat.ne_of_lt (Nat.lt_of_lt_of_le (A37.keep Kq42).lt (Nat.le_of_eq g47.symm)))
        have f109 := (((((fq42_2.ext E47).keep Kq52 (ninS ne108 nin0)).keep Kq87 nin0).keep Kq96 (ninS ne108 nin0)).ext E103)
        have f110 := ((f92.keep Kq96).ext E103)
        have f111 := (fq96_2.ext E103)
        have f112 := (fq96_1.ext E103)
        have f113 := (fq96_3.ext E103)
        have f114 := (fq96_4.ext E103)
        have f115 := ((fq87_0.keep Kq96).ext E103)
        have q116 := fun t (kt : Go p e below T103 (mkF m 119 #[vI p1, vI p2, vI p3, vI p4, vI p5, vI ((p1 &&& (2147483647 : Int32)) % (4 : Int32)), vR b_22, vR b_27, vR b_32, vR b37, vR b47, vU, vU, vU] [(.ref b47), (.ref b37), (.ref b103), (.ref b103)]) t) => q102 t (st103 t (by
          show Go _ _ _ _ (mkF m 114 #[vI p1, vI p2, vI p3, vI p4, vI p5, vI ((p1 &&& (2147483647 : Int32)) % (4 : Int32)), vR b_22, vR b_27, vR b_32, vR b37, vR b47, vU, vU, vU] [(.ref b103)]) _
          refine XS.dup X103.here hx rfl (hb hby at_114) rfl rfl ?_
          show Go _ _ _ _ (mkF m 115 _ [(.ref b103), (.ref b103)]) _
          refine XS.aload X103.here hx rfl (hb hby at_115) rfl rfl ?_
          show Go _ _ _ _ (mkF m 117 _ [(.ref b37), (.ref b103), (.ref b103)]) _
          refine XS.aload X103.here hx rfl (hb hby at_117) rfl rfl ?_
          exact kt))
        obtain ⟨_, _, ⟨T117, L117, k117, n117⟩, -, X117, ⟨_, hQ117, l117, y117, z117⟩, st117⟩ := X103.specialBack hx (y := ym35) rfl hown (ow hZ hw 78 rfl) (ow hZ hw 79 rfl) (ow hZ hw 80 rfl) (by decide) (backOf (W := 1) (rm10_01 l Z a0 hw [] cx b103 b37 b47 b_96 b_87 kb_96 h103 n0 O105 A103 F103_outcomes F103_notes f107 f109 f110 f111 f112 f113 f114 f115 gg104) hZ (ox hw 80 rfl) (ox hw 77 rfl) (by decide) (by decide)) (g := (mkF m 119 #[vI p1, vI p2, vI p3, vI p4, vI p5, vI ((p1 &&& (2147483647 : Int32)) % (4 : Int32)), vR b_22, vR b_27, vR b_32, vR b37, vR b47, vU, vU, vU] [(.ref b47), (.ref b37), (.ref b103), (.ref b103)])) rfl (by rw [hml]; rfl) (Steps.refl _) (a := b103) (argsL := [(.ref b37), (.ref b47)]) (rest := [(.ref b103)]) (lenOf pd_31 rfl) rfl own_le0 (hb hby at_119) (fun _ _ => ⟨rfl, e103, (by decide : 21 + 2 ≤ _), (by decide : 92 + 3 ≤ _)⟩)
        dsimp only [Pt.U, Pt.locs, Pt.cells, Pt.slots] at X117 l117 y117 z117 st117 hQ117
        subst l117 y117 z117
        obtain ⟨rfl, Nq117, Kq117, fq117_0⟩ := hQ117
        have N118 := Fr.app N98 Nq117
        have O119 := O105.keep Kq117 (allS gg104 all0)
        have hk120 : _ ≤ T117.heap.size := Nat.le_trans hk106 Kq117.1
        have q121 := fun t (kt : Go p e below T117 (mkF m 126 #[vI p1, vI p2, vI p3, vI p4, vI p5, vI ((p1 &&& (2147483647 : Int32)) % (4 : Int32)), vR b_22, vR b_27, vR b_32, vR b37, vR b47, vR b103, vU, vU] [(.ref b103)]) t) => q116 t (st117.trans (by
          show Go _ _ _ _ (mkF m 122 #[vI p1, vI p2, vI p3, vI p4, vI p5, vI ((p1 &&& (2147483647 : Int32)) % (4 : Int32)), vR b_22, vR b_27, vR b_32, vR b37, vR b47, vU, vU, vU] [(.ref b103)]) _
          refine XS.astore X117.here hx rfl (hb hby at_122) rfl rfl (l' := #[vI p1, vI p2, vI p3, vI p4, vI p5, vI ((p1 &&& (2147483647 : Int32)) % (4 : Int32)), vR b_22, vR b_27, vR b_32, vR b37, vR b47, vR b103, vU, vU]) rfl ?_
          show Go _ _ _ _ (mkF m 124 #[vI p1, vI p2, vI p3, vI p4, vI p5, vI ((p1 &&& (2147483647 : Int32)) % (4 : Int32)), vR b_22, vR b_27, vR b_32, vR b37, vR b47, vR b103, vU, vU] []) _
          refine XS.aload X117.here hx rfl (hb hby at_124) rfl rfl ?_
          exact kt))
        have f124 := (A103.keep Kq117)
        obtain ⟨cq123, kq123, q123a, q123b, q123c⟩ := isOf hZ rfl f124
        obtain ⟨_, _, ⟨T122, L122, k122, n122⟩, -, X122, ⟨_, hQ122, l122, y122, z122⟩, st122⟩ := X117.virtualBack hx (y := ym54) (z := ym54) hown (ow hZ hw 115 rfl) (ow hZ hw 116 rfl) (notFace_of_selects (args := #[]) (ow hZ hw 118 rfl)) (ow hZ hw 118 rfl) (ow hZ hw 117 rfl) (by decide) (backOf (W := 0) (rm15_0 l Z a0 hw [] cx b103 (cw 15) (cw 16) (cw 17) T117.heap n0 O119 fq117_0 (cx.2.2.2.2.2.2.2.2.2.2.2.2.2.2.2.2.2.2.2.2.2.2.2.2.2.2.2.2.2.2.2.2.1.ext O119.2) (cx.2.2.2.2.2.2.2.2.2.2.2.2.2.2.2.2.2.2.2.2.2.2.2.2.2.2.2.2.2.2.2.2.2.1.ext O119.2) (cx.2.2.2.2.2.2.2.2.2.2.2.2.2.2.2.2.2.2.2.2.2.2.2.2.2.2.2.2.2.2.2.2.2.2.1.ext O119.2)) hZ (ox hw 119 rfl) (ox hw 77 rfl) (by decide) (by decide)) q123a q123c (g := (mkF m 126 #[vI p1, vI p2, vI p3, vI p4, vI p5, vI ((p1 &&& (2147483647 : Int32)) % (4 : Int32)), vR b_22, vR b_27, vR b_32, vR b37, vR b47, vR b103, vU, vU] [(.ref b103)])) rfl (by rw [hml]; rfl) (Steps.refl _) (argsL := []) (rest := []) (lenOf pd_25 rfl) rfl own_le0 (hb hby at_126) (fun _ _ => ⟨rfl, rfl, (by decide : 23 + 1 ≤ _), (by decide : 95 + 4 ≤ _)⟩)
        dsimp only [Pt.U, Pt.locs, Pt.cells, Pt.slots] at X122 l122 y122 z122 st122 hQ122
        subst l122 y122 z122
        obtain ⟨b_122, rfl, Nq122, Kq122, fq122_0, fq122_1⟩ := hQ122
        have N125 := Fr.app N118 Nq122
        have O126 := O119.keep Kq122 all0
        have hk127 : _ ≤ T122.heap.size := Nat.le_trans hk120 Kq122.1
        have q128 := fun t (kt : Go p e below T122 (mkF m 131 #[vI p1, vI p2, vI p3, vI p4, vI p5, vI ((p1 &&& (2147483647 : Int32)) % (4 : Int32)), vR b_22, vR b_27, vR b_32, vR b37, vR b47, vR b103, vR b_122, vU] []) t) => q121 t (st122.trans (by
          show Go _ _ _ _ (mkF m 129 #[vI p1, vI p2, vI p3, vI p4, vI p5, vI ((p1 &&& (2147483647 : Int32)) % (4 : Int32)), vR b_22, vR b_27, vR b_32, vR b37, vR b47, vR b103, vU, vU] [(.ref b_122)]) _
          refine XS.astore X122.here hx rfl (hb hby at_129) rfl rfl (l' := #[vI p1, vI p2, vI p3, vI p4, vI p5, vI ((p1 &&& (2147483647 : Int32)) % (4 : Int32)), vR b_22, vR b_27, vR b_32, vR b37, vR b47, vR b103, vR b_122, vU]) rfl ?_
          exact kt))
        exact ⟨T122, T122.heap, _, b103, b_122, X122.mono (by decide) (by decide), rfl, O126, N125, (Nat.le_trans (Nat.le_trans (Nat.le_trans (Nat.le_trans (Nat.le_trans (Nat.le_refl _) Kq87.1) Kq96.1) E103.1) Kq117.1) Kq122.1), fq122_0, fq122_1, q128⟩
    have hk59 := Nat.le_trans hk55 sk59
    have q130 := fun t (kt : Go p e below T59 (mkF m 206 #[vI p1, vI p2, vI p3, vI p4, vI p5, vI ((p1 &&& (2147483647 : Int32)) % (4 : Int32)), vR b_22, vR b_27, vR b_32, vR b37, vR b47, vR vv, vR ob, vN] []) t) => q59 t (by
      show Go _ _ _ _ (mkF m 131 #[vI p1, vI p2, vI p3, vI p4, vI p5, vI ((p1 &&& (2147483647 : Int32)) % (4 : Int32)), vR b_22, vR b_27, vR b_32, vR b37, vR b47, vR vv, vR ob, vU] []) _
      refine XS.aconstNull X59.here hx rfl (hb hby at_131) ?_
      show Go _ _ _ _ (mkF m 132 _ [.null]) _
      refine XS.astore X59.here hx rfl (hb hby at_132) rfl rfl (l' := #[vI p1, vI p2, vI p3, vI p4, vI p5, vI ((p1 &&& (2147483647 : Int32)) % (4 : Int32)), vR b_22, vR b_27, vR b_32, vR b37, vR b47, vR vv, vR ob, vN]) rfl ?_
      show Go _ _ _ _ (mkF m 134 #[vI p1, vI p2, vI p3, vI p4, vI p5, vI ((p1 &&& (2147483647 : Int32)) % (4 : Int32)), vR b_22, vR b_27, vR b_32, vR b37, vR b47, vR vv, vR ob, vN] []) _
      refine XS.iload X59.here hx rfl (hb hby at_134) rfl ?_
      show Go _ _ _ _ (mkF m 136 _ [(.int ((p1 &&& (2147483647 : Int32)) % (4 : Int32)))]) _
      refine XS.iconst X59.here hx rfl (hb hby at_136) ?_
      show Go _ _ _ _ (mkF m 137 _ [(.int 1), (.int ((p1 &&& (2147483647 : Int32)) % (4 : Int32)))]) _
      refine XS.icmpYes X59.here hx rfl (pc0 := 137) (pc' := 159) rfl (hb hby at_137) rfl (tlt hc57).1 (by decide) (by decide) ?_
      show Go _ _ _ _ (mkF m 159 _ []) _
      refine XS.iload X59.here hx rfl (hb hby at_159) rfl ?_
      show Go _ _ _ _ (mkF m 161 _ [(.int ((p1 &&& (2147483647 : Int32)) % (4 : Int32)))]) _
      refine XS.iconst X59.here hx rfl (hb hby at_161) ?_
      show Go _ _ _ _ (mkF m 162 _ [(.int 2), (.int ((p1 &&& (2147483647 : Int32)) % (4 : Int32)))]) _
      refine XS.icmpYes X59.here hx rfl (pc0 := 162) (pc' := 184) rfl (hb hby at_162) rfl (tlt (own_lt12 hc57)).1 (by decide) (by decide) ?_
      show Go _ _ _ _ (mkF m 184 _ []) _
      refine XS.iload X59.here hx rfl (hb hby at_184) rfl ?_
      show Go _ _ _ _ (mkF m 186 _ [(.int ((p1 &&& (2147483647 : Int32)) % (4 : Int32)))]) _
      refine XS.iconst X59.here hx rfl (hb hby at_186) ?_
      show Go _ _ _ _ (mkF m 187 _ [(.int 3), (.int ((p1 &&& (2147483647 : Int32)) % (4 : Int32)))]) _
      refine XS.icmpYes X59.here hx rfl (pc0 := 187) (pc' := 206) rfl (hb hby at_187) rfl (tlt (own_lt23 (own_lt12 hc57))).1 (by decide) (by decide) ?_
      exact kt)
    have f129 : Fld Z h59 ob sk24 "value" sk3 .null := by
      have z := mf59_1
      rw [show (own_find (cw 1) []) = .null from by simp [own_find, hc57]] at z
      exact z
    have q131 := fun t (kt : Go p e below T59 (mkF m 213 #[vI p1, vI p2, vI p3, vI p4, vI p5, vI ((p1 &&& (2147483647 : Int32)) % (4 : Int32)), vR b_22, vR b_27, vR b_32, vR b37, vR b47, vR vv, vR ob, vN] [(.ref ob)]) t) => q130 t (by
      show Go _ _ _ _ (mkF m 206 #[vI p1, vI p2, vI p3, vI p4, vI p5, vI ((p1 &&& (2147483647 : Int32)) % (4 : Int32)), vR b_22, vR b_27, vR b_32, vR b37, vR b47, vR vv, vR ob, vN] []) _
      refine XS.aload X59.here hx rfl (hb hby at_206) rfl rfl ?_
      show Go _ _ _ _ (mkF m 208 _ [.null]) _
      refine XS.ifnonnullNo X59.here hx rfl (hb hby at_208) rfl ?_
      show Go _ _ _ _ (mkF m 211 _ []) _
      refine XS.aload X59.here hx rfl (hb hby at_211) rfl rfl ?_
      exact kt)
    obtain ⟨cq133, kq133, q133a, q133b, q133c⟩ := isOf hZ e59 mf59_0
    obtain ⟨_, _, ⟨T132, L132, k132, n132⟩, -, X132, ⟨_, hQ132, l132, y132, z132⟩, st132⟩ := X59.virtualBack hx (y := ym51) (z := ym51) hown (ow hZ hw 169 rfl) (ow hZ hw 170 rfl) (notFace_of_selects (args := #[]) (ow hZ hw 172 rfl)) (ow hZ hw 172 rfl) (ow hZ hw 171 rfl) (by decide) (backOf (W := 0) (rm21 l Z a0 hw [] cx ob h59 n0 O59 f129) hZ (ox hw 173 rfl) (ox hw 166 rfl) (by decide) (by decide)) q133a q133c (g := (mkF m 213 #[vI p1, vI p2, vI p3, vI p4, vI p5, vI ((p1 &&& (2147483647 : Int32)) % (4 : Int32)), vR b_22, vR b_27, vR b_32, vR b37, vR b47, vR vv, vR ob, vN] [(.ref ob)])) rfl (by rw [hml]; rfl) (Steps.refl _) (argsL := []) (rest := []) (lenOf pd_15 rfl) rfl own_le0 (hb hby at_213) (fun _ _ => ⟨rfl, e59, (by decide : 29 + 0 ≤ _), (by decide : 135 + 0 ≤ _)⟩)
    dsimp only [Pt.U, Pt.locs, Pt.cells, Pt.slots] at X132 l132 y132 z132 st132 hQ132
    subst l132 y132 z132
    obtain ⟨rfl, Nq132, eq132⟩ := hQ132
    have N134 := Fr.app N59 Nq132
    have q135 := fun t (kt : Go p e below T132 (mkF m 216 #[vI p1, vI p2, vI p3, vI p4, vI p5, vI ((p1 &&& (2147483647 : Int32)) % (4 : Int32)), vR b_22, vR b_27, vR b_32, vR b37, vR b47, vR vv, vR ob, vN] [(.int 1)]) t) => q131 t (st132.trans kt)
    obtain ⟨fs, hr, hrun, hended, hRE⟩ := X132.leaveW hS32 (by rw [eq132]; exact hk59) (v := some (.int 1)) (fun h => by rw [Bd.returns] at h; cases h)
    refine ⟨_, _, q135 _ ?_, hrun, hended, _, _, rfl, ?_, hRE.1, hRE.2.1, hRE.2.2.1, hRE.2.2.2.mono (by decide) (by decide)⟩
    · show Go p e below T132 (mkF m 216 #[vI p1, vI p2, vI p3, vI p4, vI p5, vI ((p1 &&& (2147483647 : Int32)) % (4 : Int32)), vR b_22, vR b_27, vR b_32, vR b37, vR b47, vR vv, vR ob, vN] [(.int 1)]) _
      exact retN X132 hx (t := .boolean) Bd.returns (by simp) (hb hby at_216) hr
    · show Q_rm0 Z p1 p2 p3 p4 p5 cw z_cs h0 n0 _ T132.heap _
      rw [eq132]
      exact ⟨rfl, N134⟩
  · have f136 := (((A37.keep Kq42).ext E47).keep Kq52)
    have f137 := ((((((fq22_0.keep Kq27).keep Kq32).ext E37).keep Kq42).ext E47).keep Kq52)
    have ne138 : b37 ≠ b47 := (Nat.ne_of_lt (Nat.lt_of_lt_of_le (A37.keep Kq42).lt (Nat.le_of_eq g47.symm)))
    have f139 := ((fq42_0.ext E47).keep Kq52 (ninS ne138 nin0))
    have f140 := ((fq42_1.ext E47).keep Kq52 (ninS ne138 nin0))
    have f141 := ((fq42_2.ext E47).keep Kq52 (ninS ne138 nin0))
    have q142 := fun t (kt : Go p e below T52 (mkF m 54 #[vI p1, vI p2, vI p3, vI p4, vI p5, vI ((p1 &&& (2147483647 : Int32)) % (4 : Int32)), vR b_22, vR b_27, vR b_32, vR b37, vR b47, vU, vU, vU] [(.ref b_22), (.ref b37)]) t) => q56 t (by
      show Go _ _ _ _ (mkF m 47 #[vI p1, vI p2, vI p3, vI p4, vI p5, vI ((p1 &&& (2147483647 : Int32)) % (4 : Int32)), vR b_22, vR b_27, vR b_32, vR b37, vR b47, vU, vU, vU] [(.int 1), (.int ((p1 &&& (2147483647 : Int32)) % (4 : Int32)))]) _
      refine XS.icmpNo X52.here hx rfl (hb hby at_47) rfl (flt hc57).1 ?_
      show Go _ _ _ _ (mkF m 50 _ []) _
      refine XS.aload X52.here hx rfl (hb hby at_50) rfl rfl ?_
      show Go _ _ _ _ (mkF m 52 _ [(.ref b37)]) _
      refine XS.aload X52.here hx rfl (hb hby at_52) rfl rfl ?_
      exact kt)
    obtain ⟨cq144, kq144, q144a, q144b, q144c⟩ := isOf hZ rfl f136
    obtain ⟨_, _, ⟨T143, L143, k143, n143⟩, -, X143, ⟨_, hQ143, l143, y143, z143⟩, st143⟩ := X52.virtualBack hx (y := ym12) (z := ym12) hown (ow hZ hw 184 rfl) (ow hZ hw 185 rfl) (notFace_of_selects (args := #[]) (ow hZ hw 187 rfl)) (ow hZ hw 187 rfl) (ow hZ hw 186 rfl) (by decide) (backOf (W := 0) (rm22_0 l Z a0 hw [] cx (sk9) b37 b_22 (0 : Int32) T52.heap n0 O54 f136 f137 f139 f140 f141 gg38 (ox hw 212 rfl)) hZ (ox hw 188 rfl) (ox hw 53 rfl) (by decide) (by decide)) q144a q144c (g := (mkF m 54 #[vI p1, vI p2, vI p3, vI p4, vI p5, vI ((p1 &&& (2147483647 : Int32)) % (4 : Int32)), vR b_22, vR b_27, vR b_32, vR b37, vR b47, vU, vU, vU] [(.ref b_22), (.ref b37)])) rfl (by rw [hml]; rfl) (Steps.refl _) (argsL := [(.ref b_22)]) (rest := []) (lenOf pd_33 rfl) rfl own_le0 (hb hby at_54) (fun _ _ => ⟨rfl, rfl, (by decide : 17 + 1 ≤ _), (by decide : 75 + 10 ≤ _)⟩)
    dsimp only [Pt.U, Pt.locs, Pt.cells, Pt.slots] at X143 l143 y143 z143 st143 hQ143
    subst l143 y143 z143
    obtain ⟨b_143, kb_143, z'_143, rfl, Nq143, Kq143, fr143_0, fq143_0, fq143_1, fq143_2, fq143_3, fq143_4, pq143_0⟩ := hQ143
    have N145 := Fr.app N53 Nq143
    have gg146 : n0 ≤ b_143 := Nat.le_trans (O54.1 ▸ O54.2.1) fr143_0
    have O147 := O54.keep Kq143 (allS gg38 all0)
    have hk148 : _ ≤ T143.heap.size := Nat.le_trans hk55 Kq143.1
    have q149 := fun t (kt : Go p e below T143 (mkF m 61 #[vI p1, vI p2, vI p3, vI p4, vI p5, vI ((p1 &&& (2147483647 : Int32)) % (4 : Int32)), vR b_22, vR b_27, vR b_32, vR b37, vR b47, vU, vU, vU] [(.int 2), (.int ((p1 &&& (2147483647 : Int32)) % (4 : Int32)))]) t) => q142 t (st143.trans (by
      show Go _ _ _ _ (mkF m 57 #[vI p1, vI p2, vI p3, vI p4, vI p5, vI ((p1 &&& (2147483647 : Int32)) % (4 : Int32)), vR b_22, vR b_27, vR b_32, vR b37, vR b47, vU, vU, vU] [(.int 1)]) _
      refine XS.pop X143.here hx rfl (hb hby at_57) rfl rfl ?_
      show Go _ _ _ _ (mkF m 58 _ []) _
      refine XS.iload X143.here hx rfl (hb hby at_58) rfl ?_
      show Go _ _ _ _ (mkF m 60 _ [(.int ((p1 &&& (2147483647 : Int32)) % (4 : Int32)))]) _
      refine XS.iconst X143.here hx rfl (hb hby at_60) ?_
      exact kt))
    by_cases hc150 : ((p1 &&& (2147483647 : Int32)) % (4 : Int32)) < (2 : Int32)
    · have q151 := fun t (kt : Go p e below T143 (mkF m 86 #[vI p1, vI p2, vI p3, vI p4, vI p5, vI ((p1 &&& (2147483647 : Int32)) % (4 : Int32)), vR b_22, vR b_27, vR b_32, vR b37, vR b47, vU, vU, vU] []) t) => q149 t (by
        show Go _ _ _ _ (mkF m 61 #[vI p1, vI p2, vI p3, vI p4, vI p5, vI ((p1 &&& (2147483647 : Int32)) % (4 : Int32)), vR b_22, vR b_27, vR b_32, vR b37, vR b47, vU, vU, vU] [(.int 2), (.int ((p1 &&& (2147483647 : Int32)) % (4 : Int32)))]) _
        refine XS.icmpYes X143.here hx rfl (pc0 := 61) (pc' := 72) rfl (hb hby at_61) rfl (tlt hc150).1 (by decide) (by decide) ?_
        show Go _ _ _ _ (mkF m 72 _ []) _
        refine XS.iload X143.here hx rfl (hb hby at_72) rfl ?_
        show Go _ _ _ _ (mkF m 74 _ [(.int ((p1 &&& (2147483647 : Int32)) % (4 : Int32)))]) _
        refine XS.iconst X143.here hx rfl (hb hby at_74) ?_
        show Go _ _ _ _ (mkF m 75 _ [(.int 3), (.int ((p1 &&& (2147483647 : Int32)) % (4 : Int32)))]) _
        refine XS.icmpYes X143.here hx rfl (pc0 := 75) (pc' := 86) rfl (hb hby at_75) rfl (tlt (own_lt23 hc150)).1 (by decide) (by decide) ?_
        exact kt)
      obtain ⟨T152, h152, lo152, vv, ob, X152, e152, O152, N152, sk152, mf152_0, mf152_1, q152⟩ : ∃ (T152 : State) (h152 : Heap) (lo152 : List Loc) (vv : Addr) (ob : Addr), Stand p l e room_1 (s.setVm T32.vm) m #[(.int p1), (.int p2), (.int p3), (.int p4), (.int p5)] below meth c T152 lo152 30 145 ∧ T152.heap = h152 ∧ Old Z n0 h152 ∧ Fr n0 lo152 ∧ T143.heap.size ≤ h152.size ∧ Exa Z h152 ob sk24 ∧ Fld Z h152 ob sk24 "value" sk3 (own_find (cw 1) [((own_sts cw p2), (own_stp cw p2))]) ∧ ∀ t, Go p e below T152 (mkF m 131 #[vI p1, vI p2, vI p3, vI p4, vI p5, vI ((p1 &&& (2147483647 : Int32)) % (4 : Int32)), vR b_22, vR b_27, vR b_32, vR b37, vR b47, vR vv, vR ob, vU] []) t → Go p e below s₁ (entryFrame m #[(.int p1), (.int p2), (.int p3), (.int p4), (.int p5)] maxLocals) t := by
        skip
        have q153 := fun t (kt : Go p e below T143 (mkF m 90 #[vI p1, vI p2, vI p3, vI p4, vI p5, vI ((p1 &&& (2147483647 : Int32)) % (4 : Int32)), vR b_22, vR b_27, vR b_32, vR b37, vR b47, vU, vU, vU] [(.int (p5 &&& (1 : Int32)))]) t) => q151 t (by
          show Go _ _ _ _ (mkF m 86 #[vI p1, vI p2, vI p3, vI p4, vI p5, vI ((p1 &&& (2147483647 : Int32)) % (4 : Int32)), vR b_22, vR b_27, vR b_32, vR b37, vR b47, vU, vU, vU] []) _
          refine XS.iload X143.here hx rfl (hb hby at_86) rfl ?_
          show Go _ _ _ _ (mkF m 88 _ [(.int p5)]) _
          refine XS.iconst X143.here hx rfl (hb hby at_88) ?_
          show Go _ _ _ _ (mkF m 89 _ [(.int 1), (.int p5)]) _
          refine XS.iand X143.here hx rfl (hb hby at_89) rfl ?_
          exact kt)
        by_cases hc154 : (p5 &&& (1 : Int32)) = (0 : Int32)
        · have q155 := fun t (kt : Go p e below T143 (mkF m 111 #[vI p1, vI p2, vI p3, vI p4, vI p5, vI ((p1 &&& (2147483647 : Int32)) % (4 : Int32)), vR b_22, vR b_27, vR b_32, vR b37, vR b47, vU, vU, vU] []) t) => q153 t (by
            show Go _ _ _ _ (mkF m 90 #[vI p1, vI p2, vI p3, vI p4, vI p5, vI ((p1 &&& (2147483647 : Int32)) % (4 : Int32)), vR b_22, vR b_27, vR b_32, vR b37, vR b47, vU, vU, vU] [(.int (p5 &&& (1 : Int32)))]) _
            refine XS.ifYes X143.here hx rfl (pc0 := 90) (pc' := 111) rfl (hb hby at_90) rfl ((if0 _ _).trans (teq hc154).1) (by decide) (by decide) ?_
            exact kt)
          obtain ⟨T156, h156, X156, e156, E156, A156, D156, U156, st156⟩ := newO X143 hx hZ hown (ox hw 75 rfl) (ox hw 76 rfl) (ox hw 77 rfl) rfl (g := (mkF m 111 #[vI p1, vI p2, vI p3, vI p4, vI p5, vI ((p1 &&& (2147483647 : Int32)) % (4 : Int32)), vR b_22, vR b_27, vR b_32, vR b37, vR b47, vU, vU, vU] [])) rfl (hb hby at_111) (by decide) (by decide)
          obtain ⟨b156, g156⟩ : ∃ z, z = T143.heap.size := ⟨_, rfl⟩
          rw [← g156] at A156 D156 st156
          have gg157 : n0 ≤ b156 := Nat.le_trans (O147.1 ▸ O147.2.1) (Nat.le_of_eq g156.symm)
          have O158 := O147.ext E156
          have hk159 : _ ≤ h156.size := Nat.le_trans hk148 E156.1
          have F156_outcomes : Fld Z h156 b156 sk8 "outcomes" sk5 .null := D156 (Or.inr (ox hw 112 rfl)) (ty := (.object sk23)) (by decide)
          have F156_notes : Fld Z h156 b156 sk8 "notes" sk5 .null := D156 (Or.inr (ox hw 114 rfl)) (ty := (.object sk23)) (by decide)
          have f160 := ((f136.keep Kq143).ext E156)
          have f161 := (fq143_2.ext E156)
          have f162 := (fq143_1.ext E156)
          have f163 := (fq143_3.ext E156)
          have f164 := (fq143_4.ext E156)
          have f165 := ((f137.keep Kq143).ext E156)
          have f166 := (((A47.keep Kq52).keep Kq143).ext E156)
          have f167 := ((fq52_2.keep Kq143 (ninS (Ne.symm ne138) nin0)).ext E156)
          have q168 := fun t (kt : Go p e below T156 (mkF m 119 #[vI p1, vI p2, vI p3, vI p4, vI p5, vI ((p1 &&& (2147483647 : Int32)) % (4 : Int32)), vR b_22, vR b_27, vR b_32, vR b37, vR b47, vU, vU, vU] [(.ref b47), (.ref b37), (.ref b156), (.ref b156)]) t) => q155 t (st156 t (by
            show Go _ _ _ _ (mkF m 114 #[vI p1, vI p2, vI p3, vI p4, vI p5, vI ((p1 &&& (2147483647 : Int32)) % (4 : Int32)), vR b_22, vR b_27, vR b_32, vR b37, vR b47, vU, vU, vU] [(.ref b156)]) _
            refine XS.dup X156.here hx rfl (hb hby at_114) rfl rfl ?_
            show Go _ _ _ _ (mkF m 115 _ [(.ref b156), (.ref b156)]) _
            refine XS.aload X156.here hx rfl (hb hby at_115) rfl rfl ?_
            show Go _ _ _ _ (mkF m 117 _ [(.ref b37), (.ref b156), (.ref b156)]) _
            refine XS.aload X156.here hx rfl (hb hby at_117) rfl rfl ?_
            exact kt))
          obtain ⟨_, _, ⟨T169, L169, k169, n169⟩, -, X169, ⟨_, hQ169, l169, y169, z169⟩, st169⟩ := X156.specialBack hx (y := ym35) rfl hown (ow hZ hw 78 rfl) (ow hZ hw 79 rfl) (ow hZ hw 80 rfl) (by decide) (backOf (W := 1) (rm10_10 l Z a0 hw [] cx b156 b37 b47 b_143 b_22 kb_143 h156 n0 O158 A156 F156_outcomes F156_notes f160 f161 f162 f163 f164 f165 f166 f167 gg157) hZ (ox hw 80 rfl) (ox hw 77 rfl) (by decide) (by decide)) (g := (mkF m 119 #[vI p1, vI p2, vI p3, vI p4, vI p5, vI ((p1 &&& (2147483647 : Int32)) % (4 : Int32)), vR b_22, vR b_27, vR b_32, vR b37, vR b47, vU, vU, vU] [(.ref b47), (.ref b37), (.ref b156), (.ref b156)])) rfl (by rw [hml]; rfl) (Steps.refl _) (a := b156) (argsL := [(.ref b37), (.ref b47)]) (rest := [(.ref b156)]) (lenOf pd_31 rfl) rfl own_le0 (hb hby at_119) (fun _ _ => ⟨rfl, e156, (by decide : 19 + 2 ≤ _), (by decide : 87 + 3 ≤ _)⟩)
          dsimp only [Pt.U, Pt.locs, Pt.cells, Pt.slots] at X169 l169 y169 z169 st169 hQ169
          subst l169 y169 z169
          obtain ⟨r_169, rfl, Nq169, Kq169, fr169_0, fq169_0, fq169_1, fq169_2, fq169_3⟩ := hQ169
          have N170 := Fr.app N145 Nq169
          have gg171 : n0 ≤ r_169 := Nat.le_trans (O158.1 ▸ O158.2.1) fr169_0
          have O172 := O158.keep Kq169 (allS gg157 all0)
          have hk173 : _ ≤ T169.heap.size := Nat.le_trans hk159 Kq169.1
          have f174 := (f165.keep Kq169)
          have ne175 : b_22 ≠ b37 := (Nat.ne_of_lt (Nat.lt_of_lt_of_le ((fq22_0.keep Kq27).keep Kq32).lt (Nat.le_of_eq g37.symm)))
          have ne176 : b_22 ≠ b47 := (Nat.ne_of_lt (Nat.lt_of_lt_of_le ((((fq22_0.keep Kq27).keep Kq32).ext E37).keep Kq42).lt (Nat.le_of_eq g47.symm)))
          have ne177 : b_22 ≠ b156 := (Nat.ne_of_lt (Nat.lt_of_lt_of_le (f137.keep Kq143).lt (Nat.le_of_eq g156.symm)))
          have f178 := (((((((((fq22_1.keep Kq27 nin0).keep Kq32 nin0).ext E37).keep Kq42 (ninS ne175 nin0)).ext E47).keep Kq52 (ninS ne176 nin0)).keep Kq143 (ninS ne175 nin0)).ext E156).keep Kq169 (ninS ne177 nin0))
          have f179 := (((((((((fq22_2.keep Kq27 nin0).keep Kq32 nin0).ext E37).keep Kq42 (ninS ne175 nin0)).ext E47).keep Kq52 (ninS ne176 nin0)).keep Kq143 (ninS ne175 nin0)).ext E156).keep Kq169 (ninS ne177 nin0))
          have q180 := fun t (kt : Go p e below T169 (mkF m 126 #[vI p1, vI p2, vI p3, vI p4, vI p5, vI ((p1 &&& (2147483647 : Int32)) % (4 : Int32)), vR b_22, vR b_27, vR b_32, vR b37, vR b47, vR b156, vU, vU] [(.ref b156)]) t) => q168 t (st169.trans (by
            show Go _ _ _ _ (mkF m 122 #[vI p1, vI p2, vI p3, vI p4, vI p5, vI ((p1 &&& (2147483647 : Int32)) % (4 : Int32)), vR b_22, vR b_27, vR b_32, vR b37, vR b47, vU, vU, vU] [(.ref b156)]) _
            refine XS.astore X169.here hx rfl (hb hby at_122) rfl rfl (l' := #[vI p1, vI p2, vI p3, vI p4, vI p5, vI ((p1 &&& (2147483647 : Int32)) % (4 : Int32)), vR b_22, vR b_27, vR b_32, vR b37, vR b47, vR b156, vU, vU]) rfl ?_
            show Go _ _ _ _ (mkF m 124 #[vI p1, vI p2, vI p3, vI p4, vI p5, vI ((p1 &&& (2147483647 : Int32)) % (4 : Int32)), vR b_22, vR b_27, vR b_32, vR b37, vR b47, vR b156, vU, vU] []) _
            refine XS.aload X169.here hx rfl (hb hby at_124) rfl rfl ?_
            exact kt))
          have f183 := (A156.keep Kq169)
          obtain ⟨cq182, kq182, q182a, q182b, q182c⟩ := isOf hZ rfl f183
          obtain ⟨_, _, ⟨T181, L181, k181, n181⟩, -, X181, ⟨_, hQ181, l181, y181, z181⟩, st181⟩ := X169.virtualBack hx (y := ym54) (z := ym54) hown (ow hZ hw 115 rfl) (ow hZ hw 116 rfl) (notFace_of_selects (args := #[]) (ow hZ hw 118 rfl)) (ow hZ hw 118 rfl) (ow hZ hw 117 rfl) (by decide) (backOf (W := 0) (rm15_1 l Z a0 hw [] cx b156 r_169 b_22 (own_sts cw p2) (own_stp cw p2) T169.heap n0 O172 fq169_0 fq169_1 fq169_2 fq169_3 f174 f178 f179 gg24) hZ (ox hw 119 rfl) (ox hw 77 rfl) (by decide) (by decide)) q182a q182c (g := (mkF m 126 #[vI p1, vI p2, vI p3, vI p4, vI p5, vI ((p1 &&& (2147483647 : Int32)) % (4 : Int32)), vR b_22, vR b_27, vR b_32, vR b37, vR b47, vR b156, vU, vU] [(.ref b156)])) rfl (by rw [hml]; rfl) (Steps.refl _) (argsL := []) (rest := []) (lenOf pd_25 rfl) rfl own_le0 (hb hby at_126) (fun _ _ => ⟨rfl, rfl, (by decide : 21 + 2 ≤ _), (by decide : 90 + 5 ≤ _)⟩)
          dsimp only [Pt.U, Pt.locs, Pt.cells, Pt.slots] at X181 l181 y181 z181 st181 hQ181
          subst l181 y181 z181
          obtain ⟨b_181, rfl, Nq181, Kq181, fq181_0, fq181_1⟩ := hQ181
          have N184 := Fr.app N170 Nq181
          have O185 := O172.keep Kq181 all0
          have hk186 : _ ≤ T181.heap.size := Nat.le_trans hk173 Kq181.1
          have q187 := fun t (kt : Go p e below T181 (mkF m 131 #[vI p1, vI p2, vI p3, vI p4, vI p5, vI ((p1 &&& (2147483647 : Int32)) % (4 : Int32)), vR b_22, vR b_27, vR b_32, vR b37, vR b47, vR b156, vR b_181, vU] []) t) => q180 t (st181.trans (by
            show Go _ _ _ _ (mkF m 129 #[vI p1, vI p2, vI p3, vI p4, vI p5, vI ((p1 &&& (2147483647 : Int32)) % (4 : Int32)), vR b_22, vR b_27, vR b_32, vR b37, vR b47, vR b156, vU, vU] [(.ref b_181)]) _
            refine XS.astore X181.here hx rfl (hb hby at_129) rfl rfl (l' := #[vI p1, vI p2, vI p3, vI p4, vI p5, vI ((p1 &&& (2147483647 : Int32)) % (4 : Int32)), vR b_22, vR b_27, vR b_32, vR b37, vR b47, vR b156, vR b_181, vU]) rfl ?_
            exact kt))
          exact ⟨T181, T181.heap, _, b156, b_181, X181.mono (by decide) (by decide), rfl, O185, N184, (Nat.le_trans (Nat.le_trans (Nat.le_trans (Nat.le_refl _) E156.1) Kq169.1) Kq181.1), fq181_0, fq181_1, q187⟩
        · have q188 := fun t (kt : Go p e below T143 (mkF m 104 #[vI p1, vI p2, vI p3, vI p4, vI p5, vI ((p1 &&& (2147483647 : Int32)) % (4 : Int32)), vR b_22, vR b_27, vR b_32, vR b37, vR b47, vU, vU, vU] [(.int ((((p5.toUInt32 >>> ((1 : Int32) &&& 31).toUInt32).toInt32) &&& (255 : Int32)).toUInt32.toUInt16.toUInt32.toInt32)), (.ref b47)]) t) => q153 t (by
            show Go _ _ _ _ (mkF m 90 #[vI p1, vI p2, vI p3, vI p4, vI p5, vI ((p1 &&& (2147483647 : Int32)) % (4 : Int32)), vR b_22, vR b_27, vR b_32, vR b37, vR b47, vU, vU, vU] [(.int (p5 &&& (1 : Int32)))]) _
            refine XS.ifNo X143.here hx rfl (hb hby at_90) rfl ((if0 _ _).trans (feq hc154).1) ?_
            show Go _ _ _ _ (mkF m 93 _ []) _
            refine XS.aload X143.here hx rfl (hb hby at_93) rfl rfl ?_
            show Go _ _ _ _ (mkF m 95 _ [(.ref b47)]) _
            refine XS.iload X143.here hx rfl (hb hby at_95) rfl ?_
            show Go _ _ _ _ (mkF m 97 _ [(.int p5), (.ref b47)]) _
            refine XS.iconst X143.here hx rfl (hb hby at_97) ?_
            show Go _ _ _ _ (mkF m 98 _ [(.int 1), (.int p5), (.ref b47)]) _
            refine XS.iushr X143.here hx rfl (hb hby at_98) rfl ?_
            show Go _ _ _ _ (mkF m 99 _ [(.int ((p5.toUInt32 >>> ((1 : Int32) &&& 31).toUInt32).toInt32)), (.ref b47)]) _
            refine XS.sipush X143.here hx rfl (hb hby at_99) ?_
            show Go _ _ _ _ (mkF m 102 _ [(.int 255), (.int ((p5.toUInt32 >>> ((1 : Int32) &&& 31).toUInt32).toInt32)), (.ref b47)]) _
            refine XS.iand X143.here hx rfl (hb hby at_102) rfl ?_
            show Go _ _ _ _ (mkF m 103 _ [(.int (((p5.toUInt32 >>> ((1 : Int32) &&& 31).toUInt32).toInt32) &&& (255 : Int32))), (.ref b47)]) _
            refine XS.i2c X143.here hx rfl (hb hby at_103) rfl ?_
            exact kt)
          have q189 := fun t (kt : Go p e below T143 (mkF m 104 #[vI p1, vI p2, vI p3, vI p4, vI p5, vI ((p1 &&& (2147483647 : Int32)) % (4 : Int32)), vR b_22, vR b_27, vR b_32, vR b37, vR b47, vU, vU, vU] [(.int (((p5.toUInt32 >>> ((1 : Int32) &&& 31).toUInt32).toInt32) &&& (255 : Int32))), (.ref b47)]) t) => q188 t (by rw [(i2c_mask ((p5.toUInt32 >>> ((1 : Int32) &&& 31).toUInt32).toInt32))]; exact kt)
          obtain ⟨_, _, ⟨T190, L190, k190, n190⟩, -, X190, ⟨_, hQ190, l190, y190, z190⟩, st190⟩ := Jvm.LawKit.callS X143 hx (y := ym16) hown (ow hZ hw 213 rfl) (ow hZ hw 214 rfl) (ow hZ hw 12 rfl) (ow hZ hw 215 rfl) (by decide) (backOf (W := 1) (rm27 l Z a0 hw [] cx (((p5.toUInt32 >>> ((1 : Int32) &&& 31).toUInt32).toInt32) &&& (255 : Int32)) T143.heap n0 O147 (own_and255 _)) hZ (ox hw 215 rfl) (ox hw 12 rfl) (by decide) (by decide)) (g := (mkF m 104 #[vI p1, vI p2, vI p3, vI p4, vI p5, vI ((p1 &&& (2147483647 : Int32)) % (4 : Int32)), vR b_22, vR b_27, vR b_32, vR b37, vR b47, vU, vU, vU] [(.int (((p5.toUInt32 >>> ((1 : Int32) &&& 31).toUInt32).toInt32) &&& (255 : Int32))), (.ref b47)])) rfl (by rw [hml]; rfl) (argsL := [(.int (((p5.toUInt32 >>> ((1 : Int32) &&& 31).toUInt32).toInt32) &&& (255 : Int32)))]) (rest := [(.ref b47)]) (lenOf pd_32 rfl) rfl own_le0 (hb hby at_104) (fun _ _ => ⟨rfl, rfl, (by decide : 18 + 2 ≤ _), (by decide : 85 + 5 ≤ _)⟩)
          dsimp only [Pt.U, Pt.locs, Pt.cells, Pt.slots] at X190 l190 y190 z190 st190 hQ190
          subst l190 y190 z190
          obtain ⟨b_190, rfl, Nq190, Kq190, fr190_0, fq190_0⟩ := hQ190
          have N191 := Fr.app N145 Nq190
          have gg192 : n0 ≤ b_190 := Nat.le_trans (O147.1 ▸ O147.2.1) fr190_0
          have O193 := O147.keep Kq190 all0
          have hk194 : _ ≤ T190.heap.size := Nat.le_trans hk148 Kq190.1
          have f195 := (((A47.keep Kq52).keep Kq143).keep Kq190)
          have f196 := ((fq52_0.keep Kq143 (ninS (Ne.symm ne138) nin0)).keep Kq190 nin0)
          have f197 := ((fq52_1.keep Kq143 (ninS (Ne.symm ne138) nin0)).keep Kq190 nin0)
          have f198 := ((fq52_2.keep Kq143 (ninS (Ne.symm ne138) nin0)).keep Kq190 nin0)
          obtain ⟨cq200, kq200, q200a, q200b, q200c⟩ := isOf hZ rfl f195
          obtain ⟨_, _, ⟨T199, L199, k199, n199⟩, -, X199, ⟨_, hQ199, l199, y199, z199⟩, st199⟩ := X190.virtualBack hx (y := ym12) (z := ym12) hown (ow hZ hw 184 rfl) (ow hZ hw 185 rfl) (notFace_of_selects (args := #[]) (ow hZ hw 187 rfl)) (ow hZ hw 187 rfl) (ow hZ hw 186 rfl) (by decide) (backOf (W := 0) (rm22_0 l Z a0 hw [] cx (sk15) b47 b_190 (0 : Int32) T190.heap n0 O193 f195 fq190_0 f196 f197 f198 gg48 (ox hw 232 rfl)) hZ (ox hw 188 rfl) (ox hw 53 rfl) (by decide) (by decide)) q200a q200c (g := (mkF m 107 #[vI p1, vI p2, vI p3, vI p4, vI p5, vI ((p1 &&& (2147483647 : Int32)) % (4 : Int32)), vR b_22, vR b_27, vR b_32, vR b37, vR b47, vU, vU, vU] [(.ref b_190), (.ref b47)])) rfl (by rw [hml]; rfl) (Steps.refl _) (argsL := [(.ref b_190)]) (rest := []) (lenOf pd_33 rfl) rfl own_le0 (hb hby at_107) (fun _ _ => ⟨rfl, rfl, (by decide : 20 + 1 ≤ _), (by decide : 90 + 10 ≤ _)⟩)
          dsimp only [Pt.U, Pt.locs, Pt.cells, Pt.slots] at X199 l199 y199 z199 st199 hQ199
          subst l199 y199 z199
          obtain ⟨b_199, kb_199, z'_199, rfl, Nq199, Kq199, fr199_0, fq199_0, fq199_1, fq199_2, fq199_3, fq199_4, pq199_0⟩ := hQ199
          have N201 := Fr.app N191 Nq199
          have gg202 : n0 ≤ b_199 := Nat.le_trans (O193.1 ▸ O193.2.1) fr199_0
          have O203 := O193.keep Kq199 (allS gg48 all0)
          have hk204 : _ ≤ T199.heap.size := Nat.le_trans hk194 Kq199.1
          have q205 := fun t (kt : Go p e below T199 (mkF m 111 #[vI p1, vI p2, vI p3, vI p4, vI p5, vI ((p1 &&& (2147483647 : Int32)) % (4 : Int32)), vR b_22, vR b_27, vR b_32, vR b37, vR b47, vU, vU, vU] []) t) => q189 t (st190 t (st199.trans (by
            show Go _ _ _ _ (mkF m 110 #[vI p1, vI p2, vI p3, vI p4, vI p5, vI ((p1 &&& (2147483647 : Int32)) % (4 : Int32)), vR b_22, vR b_27, vR b_32, vR b37, vR b47, vU, vU, vU] [(.int 1)]) _
            refine XS.pop X199.here hx rfl (hb hby at_110) rfl rfl ?_
            exact kt)))
          obtain ⟨T206, h206, X206, e206, E206, A206, D206, U206, st206⟩ := newO X199 hx hZ hown (ox hw 75 rfl) (ox hw 76 rfl) (ox hw 77 rfl) rfl (g := (mkF m 111 #[vI p1, vI p2, vI p3, vI p4, vI p5, vI ((p1 &&& (2147483647 : Int32)) % (4 : Int32)), vR b_22, vR b_27, vR b_32, vR b37, vR b47, vU, vU, vU] [])) rfl (hb hby at_111) (by decide) (by decide)
          obtain ⟨b206, g206⟩ : ∃ z, z = T199.heap.size := ⟨_, rfl⟩
          rw [← g206] at A206 D206 st206
          have gg207 : n0 ≤ b206 := Nat.le_trans (O203.1 ▸ O203.2.1) (Nat.le_of_eq g206.symm)
          have O208 := O203.ext E206
          have hk209 : _ ≤ h206.size := Nat.le_trans hk204 E206.1
          have F206_outcomes : Fld Z h206 b206 sk8 "outcomes" sk5 .null := D206 (Or.inr (ox hw 112 rfl)) (ty := (.object sk23)) (by decide)
          have F206_notes : Fld Z h206 b206 sk8 "notes" sk5 .null := D206 (Or.inr (ox hw 114 rfl)) (ty := (.object sk23)) (by decide)
          have f210 := ((((f136.keep Kq143).keep Kq190).keep Kq199).ext E206)
          have f211 := (((fq143_2.keep Kq190 nin0).keep Kq199 (ninS ne138 nin0)).ext E206)
          have f212 := (((fq143_1.keep Kq190 nin0).keep Kq199 (ninS ne138 nin0)).ext E206)
          have ne213 : b47 ≠ b_143 := (Nat.ne_of_lt (Nat.lt_of_lt_of_le (A47.keep Kq52).lt fr143_0))
          have f214 := (((fq143_3.keep Kq190 nin0).keep Kq199 (ninS (Ne.symm ne213) nin0)).ext E206)
          have f215 := (((fq143_4.keep Kq190).keep Kq199).ext E206)
          have f216 := ((((f137.keep Kq143).keep Kq190).keep Kq199).ext E206)
          have f217 := ((f195.keep Kq199).ext E206)
          have f218 := (fq199_2.ext E206)
          have f219 := (fq199_1.ext E206)
          have f220 := (fq199_3.ext E206)
          have f221 := (fq199_4.ext E206)
          have f222 := ((fq190_0.keep Kq199).ext E206)
          have q223 := fun t (kt : Go p e below T206 (mkF m 119 #[vI p1, vI p2, vI p3, vI p4, vI p5, vI ((p1 &&& (2147483647 : Int32)) % (4 : Int32)), vR b_22, vR b_27, vR b_32, vR b37, vR b47, vU, vU, vU] [(.ref b47), (.ref b37), (.ref b206), (.ref b206)]) t) => q205 t (st206 t (by
            show Go _ _ _ _ (mkF m 114 #[vI p1, vI p2, vI p3, vI p4, vI p5, vI ((p1 &&& (2147483647 : Int32)) % (4 : Int32)), vR b_22, vR b_27, vR b_32, vR b37, vR b47, vU, vU, vU] [(.ref b206)]) _
            refine XS.dup X206.here hx rfl (hb hby at_114) rfl rfl ?_
            show Go _ _ _ _ (mkF m 115 _ [(.ref b206), (.ref b206)]) _
            refine XS.aload X206.here hx rfl (hb hby at_115) rfl rfl ?_
            show Go _ _ _ _ (mkF m 117 _ [(.ref b37), (.ref b206), (.ref b206)]) _
            refine XS.aload X206.here hx rfl (hb hby at_117) rfl rfl ?_
            exact kt))
          obtain ⟨_, _, ⟨T224, L224, k224, n224⟩, -, X224, ⟨_, hQ224, l224, y224, z224⟩, st224⟩ := X206.specialBack hx (y := ym35) rfl hown (ow hZ hw 78 rfl) (ow hZ hw 79 rfl) (ow hZ hw 80 rfl) (by decide) (backOf (W := 1) (rm10_11 l Z a0 hw [] cx b206 b37 b47 b_143 b_22 kb_143 b_199 b_190 kb_199 h206 n0 O208 A206 F206_outcomes F206_notes f210 f211 f212 f214 f215 f216 f217 f218 f219 f220 f221 f222 gg207) hZ (ox hw 80 rfl) (ox hw 77 rfl) (by decide) (by decide)) (g := (mkF m 119 #[vI p1, vI p2, vI p3, vI p4, vI p5, vI ((p1 &&& (2147483647 : Int32)) % (4 : Int32)), vR b_22, vR b_27, vR b_32, vR b37, vR b47, vU, vU, vU] [(.ref b47), (.ref b37), (.ref b206), (.ref b206)])) rfl (by rw [hml]; rfl) (Steps.refl _) (a := b206) (argsL := [(.ref b37), (.ref b47)]) (rest := [(.ref b206)]) (lenOf pd_31 rfl) rfl own_le0 (hb hby at_119) (fun _ _ => ⟨rfl, e206, (by decide : 22 + 4 ≤ _), (by decide : 102 + 6 ≤ _)⟩)
          dsimp only [Pt.U, Pt.locs, Pt.cells, Pt.slots] at X224 l224 y224 z224 st224 hQ224
          subst l224 y224 z224
          obtain ⟨r_224, rfl, Nq224, Kq224, fr224_0, fq224_0, fq224_1, fq224_2, fq224_3⟩ := hQ224
          have N225 := Fr.app N201 Nq224
          have gg226 : n0 ≤ r_224 := Nat.le_trans (O208.1 ▸ O208.2.1) fr224_0
          have O227 := O208.keep Kq224 (allS gg207 all0)
          have hk228 : _ ≤ T224.heap.size := Nat.le_trans hk209 Kq224.1
          have f229 := (f216.keep Kq224)
          have ne230 : b_22 ≠ b37 := (Nat.ne_of_lt (Nat.lt_of_lt_of_le ((fq22_0.keep Kq27).keep Kq32).lt (Nat.le_of_eq g37.symm)))
          have ne231 : b_22 ≠ b47 := (Nat.ne_of_lt (Nat.lt_of_lt_of_le ((((fq22_0.keep Kq27).keep Kq32).ext E37).keep Kq42).lt (Nat.le_of_eq g47.symm)))
          have ne232 : b_22 ≠ b206 := (Nat.ne_of_lt (Nat.lt_of_lt_of_le (((f137.keep Kq143).keep Kq190).keep Kq199).lt (Nat.le_of_eq g206.symm)))
          have f233 := (((((((((((fq22_1.keep Kq27 nin0).keep Kq32 nin0).ext E37).keep Kq42 (ninS ne230 nin0)).ext E47).keep Kq52 (ninS ne231 nin0)).keep Kq143 (ninS ne230 nin0)).keep Kq190 nin0).keep Kq199 (ninS ne231 nin0)).ext E206).keep Kq224 (ninS ne232 nin0))
          have f234 := (((((((((((fq22_2.keep Kq27 nin0).keep Kq32 nin0).ext E37).keep Kq42 (ninS ne230 nin0)).ext E47).keep Kq52 (ninS ne231 nin0)).keep Kq143 (ninS ne230 nin0)).keep Kq190 nin0).keep Kq199 (ninS ne231 nin0)).ext E206).keep Kq224 (ninS ne232 nin0))
          have q235 := fun t (kt : Go p e below T224 (mkF m 126 #[vI p1, vI p2, vI p3, vI p4, vI p5, vI ((p1 &&& (2147483647 : Int32)) % (4 : Int32)), vR b_22, vR b_27, vR b_32, vR b37, vR b47, vR b206, vU, vU] [(.ref b206)]) t) => q223 t (st224.trans (by
            show Go _ _ _ _ (mkF m 122 #[vI p1, vI p2, vI p3, vI p4, vI p5, vI ((p1 &&& (2147483647 : Int32)) % (4 : Int32)), vR b_22, vR b_27, vR b_32, vR b37, vR b47, vU, vU, vU] [(.ref b206)]) _
            refine XS.astore X224.here hx rfl (hb hby at_122) rfl rfl (l' := #[vI p1, vI p2, vI p3, vI p4, vI p5, vI ((p1 &&& (2147483647 : Int32)) % (4 : Int32)), vR b_22, vR b_27, vR b_32, vR b37, vR b47, vR b206, vU, vU]) rfl ?_
            show Go _ _ _ _ (mkF m 124 #[vI p1, vI p2, vI p3, vI p4, vI p5, vI ((p1 &&& (2147483647 : Int32)) % (4 : Int32)), vR b_22, vR b_27, vR b_32, vR b37, vR b47, vR b206, vU, vU] []) _
            refine XS.aload X224.here hx rfl (hb hby at_124) rfl rfl ?_
            exact kt))
          have f238 := (A206.keep Kq224)
          obtain ⟨cq237, kq237, q237a, q237b, q237c⟩ := isOf hZ rfl f238
          obtain ⟨_, _, ⟨T236, L236, k236, n236⟩, -, X236, ⟨_, hQ236, l236, y236, z236⟩, st236⟩ := X224.virtualBack hx (y := ym54) (z := ym54) hown (ow hZ hw 115 rfl) (ow hZ hw 116 rfl) (notFace_of_selects (args := #[]) (ow hZ hw 118 rfl)) (ow hZ hw 118 rfl) (ow hZ hw 117 rfl) (by decide) (backOf (W := 0) (rm15_1 l Z a0 hw [] cx b206 r_224 b_22 (own_sts cw p2) (own_stp cw p2) T224.heap n0 O227 fq224_0 fq224_1 fq224_2 fq224_3 f229 f233 f234 gg24) hZ (ox hw 119 rfl) (ox hw 77 rfl) (by decide) (by decide)) q237a q237c (g := (mkF m 126 #[vI p1, vI p2, vI p3, vI p4, vI p5, vI ((p1 &&& (2147483647 : Int32)) % (4 : Int32)), vR b_22, vR b_27, vR b_32, vR b37, vR b47, vR b206, vU, vU] [(.ref b206)])) rfl (by rw [hml]; rfl) (Steps.refl _) (argsL := []) (rest := []) (lenOf pd_25 rfl) rfl own_le0 (hb hby at_126) (fun _ _ => ⟨rfl, rfl, (by decide : 26 + 2 ≤ _), (by decide : 108 + 5 ≤ _)⟩)
          dsimp only [Pt.U, Pt.locs, Pt.cells, Pt.slots] at X236 l236 y236 z236 st236 hQ236
          subst l236 y236 z236
          obtain ⟨b_236, rfl, Nq236, Kq236, fq236_0, fq236_1⟩ := hQ236
          have N239 := Fr.app N225 Nq236
          have O240 := O227.keep Kq236 all0
          have hk241 : _ ≤ T236.heap.size := Nat.le_trans hk228 Kq236.1
          have q242 := fun t (kt : Go p e below T236 (mkF m 131 #[vI p1, vI p2, vI p3, vI p4, vI p5, vI ((p1 &&& (2147483647 : Int32)) % (4 : Int32)), vR b_22, vR b_27, vR b_32, vR b37, vR b47, vR b206, vR b_236, vU] []) t) => q235 t (st236.trans (by
            show Go _ _ _ _ (mkF m 129 #[vI p1, vI p2, vI p3, vI p4, vI p5, vI ((p1 &&& (2147483647 : Int32)) % (4 : Int32)), vR b_22, vR b_27, vR b_32, vR b37, vR b47, vR b206, vU, vU] [(.ref b_236)]) _
            refine XS.astore X236.here hx rfl (hb hby at_129) rfl rfl (l' := #[vI p1, vI p2, vI p3, vI p4, vI p5, vI ((p1 &&& (2147483647 : Int32)) % (4 : Int32)), vR b_22, vR b_27, vR b_32, vR b37, vR b47, vR b206, vR b_236, vU]) rfl ?_
            exact kt))
          exact ⟨T236, T236.heap, _, b206, b_236, X236.mono (by decide) (by decide), rfl, O240, N239, (Nat.le_trans (Nat.le_trans (Nat.le_trans (Nat.le_trans (Nat.le_trans (Nat.le_refl _) Kq190.1) Kq199.1) E206.1) Kq224.1) Kq236.1), fq236_0, fq236_1, q242⟩
      have hk152 := Nat.le_trans hk148 sk152
      have q243 := fun t (kt : Go p e below T152 (mkF m 141 #[vI p1, vI p2, vI p3, vI p4, vI p5, vI ((p1 &&& (2147483647 : Int32)) % (4 : Int32)), vR b_22, vR b_27, vR b_32, vR b37, vR b47, vR vv, vR ob, vN] [(.int p2)]) t) => q152 t (by
        show Go _ _ _ _ (mkF m 131 #[vI p1, vI p2, vI p3, vI p4, vI p5, vI ((p1 &&& (2147483647 : Int32)) % (4 : Int32)), vR b_22, vR b_27, vR b_32, vR b37, vR b47, vR vv, vR ob, vU] []) _
        refine XS.aconstNull X152.here hx rfl (hb hby at_131) ?_
        show Go _ _ _ _ (mkF m 132 _ [.null]) _
        refine XS.astore X152.here hx rfl (hb hby at_132) rfl rfl (l' := #[vI p1, vI p2, vI p3, vI p4, vI p5, vI ((p1 &&& (2147483647 : Int32)) % (4 : Int32)), vR b_22, vR b_27, vR b_32, vR b37, vR b47, vR vv, vR ob, vN]) rfl ?_
        show Go _ _ _ _ (mkF m 134 #[vI p1, vI p2, vI p3, vI p4, vI p5, vI ((p1 &&& (2147483647 : Int32)) % (4 : Int32)), vR b_22, vR b_27, vR b_32, vR b37, vR b47, vR vv, vR ob, vN] []) _
        refine XS.iload X152.here hx rfl (hb hby at_134) rfl ?_
        show Go _ _ _ _ (mkF m 136 _ [(.int ((p1 &&& (2147483647 : Int32)) % (4 : Int32)))]) _
        refine XS.iconst X152.here hx rfl (hb hby at_136) ?_
        show Go _ _ _ _ (mkF m 137 _ [(.int 1), (.int ((p1 &&& (2147483647 : Int32)) % (4 : Int32)))]) _
        refine XS.icmpNo X152.here hx rfl (hb hby at_137) rfl (flt hc57).1 ?_
        show Go _ _ _ _ (mkF m 140 _ []) _
        refine XS.iloadN X152.here hx rfl (hb hby at_140) rfl ?_
        exact kt)
      obtain ⟨_, _, ⟨T244, L244, k244, n244⟩, -, X244, ⟨_, hQ244, l244, y244, z244⟩, st244⟩ := Jvm.LawKit.callS X152 hx (y := ym5) hown (ow hZ hw 5 rfl) (ow hZ hw 6 rfl) (ow hZ hw 3 rfl) (ow hZ hw 7 rfl) (by decide) (backOf (W := 0) (rm2 l Z a0 hw [] cx p2 h152 n0 O152 ) hZ (ox hw 7 rfl) (ox hw 3 rfl) (by decide) (by decide)) (g := (mkF m 141 #[vI p1, vI p2, vI p3, vI p4, vI p5, vI ((p1 &&& (2147483647 : Int32)) % (4 : Int32)), vR b_22, vR b_27, vR b_32, vR b37, vR b47, vR vv, vR ob, vN] [(.int p2)])) rfl (by rw [hml]; rfl) (argsL := [(.int p2)]) (rest := []) (lenOf pd_1 rfl) rfl own_le0 (hb hby at_141) (fun _ _ => ⟨rfl, e152, (by decide : 30 + 0 ≤ _), (by decide : 145 + 0 ≤ _)⟩)
      dsimp only [Pt.U, Pt.locs, Pt.cells, Pt.slots] at X244 l244 y244 z244 st244 hQ244
      subst l244 y244 z244
      obtain ⟨rfl, Nq244, eq244⟩ := hQ244
      have N245 := Fr.app N152 Nq244
      obtain ⟨T246, X246, e246, st246⟩ := getS2 X244 hx hZ hown (host := "") (Or.inl (ox hw 19 rfl)) Via.refl eq244 (cx.2.2.1.ext O152.2) (g := (mkF m 144 #[vI p1, vI p2, vI p3, vI p4, vI p5, vI ((p1 &&& (2147483647 : Int32)) % (4 : Int32)), vR b_22, vR b_27, vR b_32, vR b37, vR b47, vR vv, vR ob, vN] [(.ref (own_sts cw p2))])) rfl (hb hby at_144)
      have q247 := fun t (kt : Go p e below T246 (mkF m 147 #[vI p1, vI p2, vI p3, vI p4, vI p5, vI ((p1 &&& (2147483647 : Int32)) % (4 : Int32)), vR b_22, vR b_27, vR b_32, vR b37, vR b47, vR vv, vR ob, vN] [(.ref (cw 1)), (.ref (own_sts cw p2))]) t) => q243 t (st244 t (st246 t kt))
      by_cases hc248 : (own_sts cw p2) = (cw 1)
      · have q249 := fun t (kt : Go p e below T246 (mkF m 151 #[vI p1, vI p2, vI p3, vI p4, vI p5, vI ((p1 &&& (2147483647 : Int32)) % (4 : Int32)), vR b_22, vR b_27, vR b_32, vR b37, vR b47, vR vv, vR ob, vN] [(.int p2)]) t) => q247 t (by
          show Go _ _ _ _ (mkF m 147 #[vI p1, vI p2, vI p3, vI p4, vI p5, vI ((p1 &&& (2147483647 : Int32)) % (4 : Int32)), vR b_22, vR b_27, vR b_32, vR b37, vR b47, vR vv, vR ob, vN] [(.ref (cw 1)), (.ref (own_sts cw p2))]) _
          refine Jvm.RoadKit.acmp (g := (mkF m 147 #[vI p1, vI p2, vI p3, vI p4, vI p5, vI ((p1 &&& (2147483647 : Int32)) % (4 : Int32)), vR b_22, vR b_27, vR b_32, vR b37, vR b47, vR vv, vR ob, vN] [(.ref (cw 1)), (.ref (own_sts cw p2))])) X246 hx rfl rfl rfl (pc0 := 147) (pc' := 150) (same := true) rfl (hb hby at_147) rfl (decide_eq_true (congrArg Value.ref hc248)) (by decide) (by decide) ?_
          show Go _ _ _ _ (mkF m 150 _ []) _
          refine XS.iloadN X246.here hx rfl (hb hby at_150) rfl ?_
          exact kt)
        obtain ⟨_, _, ⟨T250, L250, k250, n250⟩, -, X250, ⟨_, hQ250, l250, y250, z250⟩, st250⟩ := Jvm.LawKit.callS X246 hx (y := ym6) hown (ow hZ hw 24 rfl) (ow hZ hw 25 rfl) (ow hZ hw 3 rfl) (ow hZ hw 26 rfl) (by decide) (backOf (W := 0) (rm3 l Z a0 hw [] cx p2 h152 n0 O152 ) hZ (ox hw 26 rfl) (ox hw 3 rfl) (by decide) (by decide)) (g := (mkF m 151 #[vI p1, vI p2, vI p3, vI p4, vI p5, vI ((p1 &&& (2147483647 : Int32)) % (4 : Int32)), vR b_22, vR b_27, vR b_32, vR b37, vR b47, vR vv, vR ob, vN] [(.int p2)])) rfl (by rw [hml]; rfl) (argsL := [(.int p2)]) (rest := []) (lenOf pd_2 rfl) rfl own_le0 (hb hby at_151) (fun _ _ => ⟨rfl, e246, (by decide : 30 + 0 ≤ _), (by decide : 145 + 0 ≤ _)⟩)
        dsimp only [Pt.U, Pt.locs, Pt.cells, Pt.slots] at X250 l250 y250 z250 st250 hQ250
        subst l250 y250 z250
        obtain ⟨rfl, Nq250, eq250⟩ := hQ250
        have N251 := Fr.app N245 Nq250
        have q253 := fun t (kt : Go p e below T250 (mkF m 206 #[vI p1, vI p2, vI p3, vI p4, vI p5, vI ((p1 &&& (2147483647 : Int32)) % (4 : Int32)), vR b_22, vR b_27, vR b_32, vR b37, vR b47, vR vv, vR ob, vR (own_stp cw p2)] []) t) => q249 t (st250 t (by
          show Go _ _ _ _ (mkF m 154 #[vI p1, vI p2, vI p3, vI p4, vI p5, vI ((p1 &&& (2147483647 : Int32)) % (4 : Int32)), vR b_22, vR b_27, vR b_32, vR b37, vR b47, vR vv, vR ob, vN] [(.ref (own_stp cw p2))]) _
          refine XS.astore X250.here hx rfl (hb hby at_154) rfl rfl (l' := #[vI p1, vI p2, vI p3, vI p4, vI p5, vI ((p1 &&& (2147483647 : Int32)) % (4 : Int32)), vR b_22, vR b_27, vR b_32, vR b37, vR b47, vR vv, vR ob, vR (own_stp cw p2)]) rfl ?_
          show Go _ _ _ _ (mkF m 156 #[vI p1, vI p2, vI p3, vI p4, vI p5, vI ((p1 &&& (2147483647 : Int32)) % (4 : Int32)), vR b_22, vR b_27, vR b_32, vR b37, vR b47, vR vv, vR ob, vR (own_stp cw p2)] []) _
          refine XS.goto X250.here hx rfl (pc0 := 156) (pc' := 206) rfl (hb hby at_156) (by decide) (by decide) ?_
          exact kt))
        have f252 : Fld Z h152 ob sk24 "value" sk3 (.ref (own_stp cw p2)) := by
          have z := mf152_1
          rw [show (own_find (cw 1) [((own_sts cw p2), (own_stp cw p2))]) = (.ref (own_stp cw p2)) from by simp [own_find, hc57, hc150, hc248]] at z
          exact z
        have q254 := fun t (kt : Go p e below T250 (mkF m 219 #[vI p1, vI p2, vI p3, vI p4, vI p5, vI ((p1 &&& (2147483647 : Int32)) % (4 : Int32)), vR b_22, vR b_27, vR b_32, vR b37, vR b47, vR vv, vR ob, vR (own_stp cw p2)] [(.ref ob)]) t) => q253 t (by
          show Go _ _ _ _ (mkF m 206 #[vI p1, vI p2, vI p3, vI p4, vI p5, vI ((p1 &&& (2147483647 : Int32)) % (4 : Int32)), vR b_22, vR b_27, vR b_32, vR b37, vR b47, vR vv, vR ob, vR (own_stp cw p2)] []) _
          refine XS.aload X250.here hx rfl (hb hby at_206) rfl rfl ?_
          show Go _ _ _ _ (mkF m 208 _ [(.ref (own_stp cw p2))]) _
          refine XS.ifnonnullYes X250.here hx rfl (pc0 := 208) (pc' := 217) rfl (hb hby at_208) rfl (by decide) (by decide) ?_
          show Go _ _ _ _ (mkF m 217 _ []) _
          refine XS.aload X250.here hx rfl (hb hby at_217) rfl rfl ?_
          exact kt)
        obtain ⟨cq256, kq256, q256a, q256b, q256c⟩ := isOf hZ eq250 mf152_0
        obtain ⟨_, _, ⟨T255, L255, k255, n255⟩, -, X255, ⟨_, hQ255, l255, y255, z255⟩, st255⟩ := X250.virtualBack hx (y := ym52) (z := ym52) hown (ow hZ hw 358 rfl) (ow hZ hw 359 rfl) (notFace_of_selects (args := #[]) (ow hZ hw 361 rfl)) (ow hZ hw 361 rfl) (ow hZ hw 360 rfl) (by decide) (backOf (W := 0) (rm48 l Z a0 hw [] cx ob (own_stp cw p2) h152 n0 O152 f252) hZ (ox hw 362 rfl) (ox hw 166 rfl) (by decide) (by decide)) q256a q256c (g := (mkF m 219 #[vI p1, vI p2, vI p3, vI p4, vI p5, vI ((p1 &&& (2147483647 : Int32)) % (4 : Int32)), vR b_22, vR b_27, vR b_32, vR b37, vR b47, vR vv, vR ob, vR (own_stp cw p2)] [(.ref ob)])) rfl (by rw [hml]; rfl) (Steps.refl _) (argsL := []) (rest := []) (lenOf pd_15 rfl) rfl own_le0 (hb hby at_219) (fun _ _ => ⟨rfl, eq250, (by decide : 30 + 0 ≤ _), (by decide : 145 + 0 ≤ _)⟩)
        dsimp only [Pt.U, Pt.locs, Pt.cells, Pt.slots] at X255 l255 y255 z255 st255 hQ255
        subst l255 y255 z255
        obtain ⟨rfl, Nq255, eq255⟩ := hQ255
        have N257 := Fr.app N251 Nq255
        have q258 := fun t (kt : Go p e below T255 (mkF m 227 #[vI p1, vI p2, vI p3, vI p4, vI p5, vI ((p1 &&& (2147483647 : Int32)) % (4 : Int32)), vR b_22, vR b_27, vR b_32, vR b37, vR b47, vR vv, vR ob, vR (own_stp cw p2)] [(.ref ob)]) t) => q254 t (st255.trans (by
          show Go _ _ _ _ (mkF m 222 #[vI p1, vI p2, vI p3, vI p4, vI p5, vI ((p1 &&& (2147483647 : Int32)) % (4 : Int32)), vR b_22, vR b_27, vR b_32, vR b37, vR b47, vR vv, vR ob, vR (own_stp cw p2)] [(.int 1)]) _
          refine XS.ifNo X255.here hx rfl (hb hby at_222) rfl ((if0 _ _).trans (feq (by decide : ¬ ((1 : Int32) = (0 : Int32)))).1) ?_
          show Go _ _ _ _ (mkF m 225 _ []) _
          refine XS.aload X255.here hx rfl (hb hby at_225) rfl rfl ?_
          exact kt))
        obtain ⟨cq260, kq260, q260a, q260b, q260c⟩ := isOf hZ eq255 mf152_0
        obtain ⟨_, _, ⟨T259, L259, k259, n259⟩, -, X259, ⟨_, hQ259, l259, y259, z259⟩, st259⟩ := X255.virtualBack hx (y := ym53) (z := ym53) hown (ow hZ hw 363 rfl) (ow hZ hw 364 rfl) (notFace_of_selects (args := #[]) (ow hZ hw 366 rfl)) (ow hZ hw 366 rfl) (ow hZ hw 365 rfl) (by decide) (backOf (W := 0) (rm49 l Z a0 hw [] cx ob (own_stp cw p2) h152 n0 O152 f252) hZ (ox hw 367 rfl) (ox hw 166 rfl) (by decide) (by decide)) q260a q260c (g := (mkF m 227 #[vI p1, vI p2, vI p3, vI p4, vI p5, vI ((p1 &&& (2147483647 : Int32)) % (4 : Int32)), vR b_22, vR b_27, vR b_32, vR b37, vR b47, vR vv, vR ob, vR (own_stp cw p2)] [(.ref ob)])) rfl (by rw [hml]; rfl) (Steps.refl _) (argsL := []) (rest := []) (lenOf pd_26 rfl) rfl own_le0 (hb hby at_227) (fun _ _ => ⟨rfl, eq255, (by decide : 30 + 0 ≤ _), (by decide : 145 + 0 ≤ _)⟩)
        dsimp only [Pt.U, Pt.locs, Pt.cells, Pt.slots] at X259 l259 y259 z259 st259 hQ259
        subst l259 y259 z259
        obtain ⟨rfl, Nq259, eq259⟩ := hQ259
        have N261 := Fr.app N257 Nq259
        have q262 := fun t (kt : Go p e below T259 (mkF m 240 #[vI p1, vI p2, vI p3, vI p4, vI p5, vI ((p1 &&& (2147483647 : Int32)) % (4 : Int32)), vR b_22, vR b_27, vR b_32, vR b37, vR b47, vR vv, vR ob, vR (own_stp cw p2)] [(.int 1)]) t) => q258 t (st259.trans (by
          show Go _ _ _ _ (mkF m 230 #[vI p1, vI p2, vI p3, vI p4, vI p5, vI ((p1 &&& (2147483647 : Int32)) % (4 : Int32)), vR b_22, vR b_27, vR b_32, vR b37, vR b47, vR vv, vR ob, vR (own_stp cw p2)] [(.ref (own_stp cw p2))]) _
          refine XS.aload X259.here hx rfl (hb hby at_230) rfl rfl ?_
          show Go _ _ _ _ (mkF m 232 _ [(.ref (own_stp cw p2)), (.ref (own_stp cw p2))]) _
          refine Jvm.RoadKit.acmp (g := (mkF m 232 #[vI p1, vI p2, vI p3, vI p4, vI p5, vI ((p1 &&& (2147483647 : Int32)) % (4 : Int32)), vR b_22, vR b_27, vR b_32, vR b37, vR b47, vR vv, vR ob, vR (own_stp cw p2)] [(.ref (own_stp cw p2)), (.ref (own_stp cw p2))])) X259 hx rfl rfl rfl (pc0 := 232) (pc' := 235) (same := true) rfl (hb hby at_232) rfl (decide_eq_true rfl) (by decide) (by decide) ?_
          show Go _ _ _ _ (mkF m 235 _ []) _
          refine XS.iconst X259.here hx rfl (hb hby at_235) ?_
          show Go _ _ _ _ (mkF m 236 _ [(.int 1)]) _
          refine XS.goto X259.here hx rfl (pc0 := 236) (pc' := 240) rfl (hb hby at_236) (by decide) (by decide) ?_
          exact kt))
        obtain ⟨fs, hr, hrun, hended, hRE⟩ := X259.leaveW hS32 (by rw [eq259]; exact hk152) (v := some (.int 1)) (fun h => by rw [Bd.returns] at h; cases h)
        refine ⟨_, _, q262 _ ?_, hrun, hended, _, _, rfl, ?_, hRE.1, hRE.2.1, hRE.2.2.1, hRE.2.2.2.mono (by decide) (by decide)⟩
        · show Go p e below T259 (mkF m 240 #[vI p1, vI p2, vI p3, vI p4, vI p5, vI ((p1 &&& (2147483647 : Int32)) % (4 : Int32)), vR b_22, vR b_27, vR b_32, vR b37, vR b47, vR vv, vR ob, vR (own_stp cw p2)] [(.int 1)]) _
          exact retN X259 hx (t := .boolean) Bd.returns (by simp) (hb hby at_240) hr
        · show Q_rm0 Z p1 p2 p3 p4 p5 cw z_cs h0 n0 _ T259.heap _
          rw [eq259]
          exact ⟨rfl, N261⟩
      · have q264 := fun t (kt : Go p e below T246 (mkF m 206 #[vI p1, vI p2, vI p3, vI p4, vI p5, vI ((p1 &&& (2147483647 : Int32)) % (4 : Int32)), vR b_22, vR b_27, vR b_32, vR b37, vR b47, vR vv, vR ob, vN] []) t) => q247 t (by
          show Go _ _ _ _ (mkF m 147 #[vI p1, vI p2, vI p3, vI p4, vI p5, vI ((p1 &&& (2147483647 : Int32)) % (4 : Int32)), vR b_22, vR b_27, vR b_32, vR b37, vR b47, vR vv, vR ob, vN] [(.ref (cw 1)), (.ref (own_sts cw p2))]) _
          refine Jvm.RoadKit.acmp (g := (mkF m 147 #[vI p1, vI p2, vI p3, vI p4, vI p5, vI ((p1 &&& (2147483647 : Int32)) % (4 : Int32)), vR b_22, vR b_27, vR b_32, vR b37, vR b47, vR vv, vR ob, vN] [(.ref (cw 1)), (.ref (own_sts cw p2))])) X246 hx rfl rfl rfl (pc0 := 147) (pc' := 159) (same := false) rfl (hb hby at_147) rfl (decide_eq_false (fun q => hc248 (Value.ref.inj q))) (by decide) (by decide) ?_
          show Go _ _ _ _ (mkF m 159 _ []) _
          refine XS.iload X246.here hx rfl (hb hby at_159) rfl ?_
          show Go _ _ _ _ (mkF m 161 _ [(.int ((p1 &&& (2147483647 : Int32)) % (4 : Int32)))]) _
          refine XS.iconst X246.here hx rfl (hb hby at_161) ?_
          show Go _ _ _ _ (mkF m 162 _ [(.int 2), (.int ((p1 &&& (2147483647 : Int32)) % (4 : Int32)))]) _
          refine XS.icmpYes X246.here hx rfl (pc0 := 162) (pc' := 184) rfl (hb hby at_162) rfl (tlt hc150).1 (by decide) (by decide) ?_
          show Go _ _ _ _ (mkF m 184 _ []) _
          refine XS.iload X246.here hx rfl (hb hby at_184) rfl ?_
          show Go _ _ _ _ (mkF m 186 _ [(.int ((p1 &&& (2147483647 : Int32)) % (4 : Int32)))]) _
          refine XS.iconst X246.here hx rfl (hb hby at_186) ?_
          show Go _ _ _ _ (mkF m 187 _ [(.int 3), (.int ((p1 &&& (2147483647 : Int32)) % (4 : Int32)))]) _
          refine XS.icmpYes X246.here hx rfl (pc0 := 187) (pc' := 206) rfl (hb hby at_187) rfl (tlt (own_lt23 hc150)).1 (by decide) (by decide) ?_
          exact kt)
        have f263 : Fld Z h152 ob sk24 "value" sk3 .null := by
          have z := mf152_1
          rw [show (own_find (cw 1) [((own_sts cw p2), (own_stp cw p2))]) = .null from by simp [own_find, hc57, hc150, hc248]] at z
          exact z
        have q265 := fun t (kt : Go p e below T246 (mkF m 213 #[vI p1, vI p2, vI p3, vI p4, vI p5, vI ((p1 &&& (2147483647 : Int32)) % (4 : Int32)), vR b_22, vR b_27, vR b_32, vR b37, vR b47, vR vv, vR ob, vN] [(.ref ob)]) t) => q264 t (by
          show Go _ _ _ _ (mkF m 206 #[vI p1, vI p2, vI p3, vI p4, vI p5, vI ((p1 &&& (2147483647 : Int32)) % (4 : Int32)), vR b_22, vR b_27, vR b_32, vR b37, vR b47, vR vv, vR ob, vN] []) _
          refine XS.aload X246.here hx rfl (hb hby at_206) rfl rfl ?_
          show Go _ _ _ _ (mkF m 208 _ [.null]) _
          refine XS.ifnonnullNo X246.here hx rfl (hb hby at_208) rfl ?_
          show Go _ _ _ _ (mkF m 211 _ []) _
          refine XS.aload X246.here hx rfl (hb hby at_211) rfl rfl ?_
          exact kt)
        obtain ⟨cq267, kq267, q267a, q267b, q267c⟩ := isOf hZ e246 mf152_0
        obtain ⟨_, _, ⟨T266, L266, k266, n266⟩, -, X266, ⟨_, hQ266, l266, y266, z266⟩, st266⟩ := X246.virtualBack hx (y := ym51) (z := ym51) hown (ow hZ hw 169 rfl) (ow hZ hw 170 rfl) (notFace_of_selects (args := #[]) (ow hZ hw 172 rfl)) (ow hZ hw 172 rfl) (ow hZ hw 171 rfl) (by decide) (backOf (W := 0) (rm21 l Z a0 hw [] cx ob h152 n0 O152 f263) hZ (ox hw 173 rfl) (ox hw 166 rfl) (by decide) (by decide)) q267a q267c (g := (mkF m 213 #[vI p1, vI p2, vI p3, vI p4, vI p5, vI ((p1 &&& (2147483647 : Int32)) % (4 : Int32)), vR b_22, vR b_27, vR b_32, vR b37, vR b47, vR vv, vR ob, vN] [(.ref ob)])) rfl (by rw [hml]; rfl) (Steps.refl _) (argsL := []) (rest := []) (lenOf pd_15 rfl) rfl own_le0 (hb hby at_213) (fun _ _ => ⟨rfl, e246, (by decide : 30 + 0 ≤ _), (by decide : 145 + 0 ≤ _)⟩)
        dsimp only [Pt.U, Pt.locs, Pt.cells, Pt.slots] at X266 l266 y266 z266 st266 hQ266
        subst l266 y266 z266
        obtain ⟨rfl, Nq266, eq266⟩ := hQ266
        have N268 := Fr.app N245 Nq266
        have q269 := fun t (kt : Go p e below T266 (mkF m 216 #[vI p1, vI p2, vI p3, vI p4, vI p5, vI ((p1 &&& (2147483647 : Int32)) % (4 : Int32)), vR b_22, vR b_27, vR b_32, vR b37, vR b47, vR vv, vR ob, vN] [(.int 1)]) t) => q265 t (st266.trans kt)
        obtain ⟨fs, hr, hrun, hended, hRE⟩ := X266.leaveW hS32 (by rw [eq266]; exact hk152) (v := some (.int 1)) (fun h => by rw [Bd.returns] at h; cases h)
        refine ⟨_, _, q269 _ ?_, hrun, hended, _, _, rfl, ?_, hRE.1, hRE.2.1, hRE.2.2.1, hRE.2.2.2.mono (by decide) (by decide)⟩
        · show Go p e below T266 (mkF m 216 #[vI p1, vI p2, vI p3, vI p4, vI p5, vI ((p1 &&& (2147483647 : Int32)) % (4 : Int32)), vR b_22, vR b_27, vR b_32, vR b37, vR b47, vR vv, vR ob, vN] [(.int 1)]) _
          exact retN X266 hx (t := .boolean) Bd.returns (by simp) (hb hby at_216) hr
        · show Q_rm0 Z p1 p2 p3 p4 p5 cw z_cs h0 n0 _ T266.heap _
          rw [eq266]
          exact ⟨rfl, N268⟩
    · have f270 := (f136.keep Kq143)
      have f271 := ((((((fq27_0.keep Kq32).ext E37).keep Kq42).ext E47).keep Kq52).keep Kq143)
      have ne272 : b37 ≠ b_143 := (Nat.ne_of_lt (Nat.lt_of_lt_of_le f136.lt fr143_0))
      have q273 := fun t (kt : Go p e below T143 (mkF m 68 #[vI p1, vI p2, vI p3, vI p4, vI p5, vI ((p1 &&& (2147483647 : Int32)) % (4 : Int32)), vR b_22, vR b_27, vR b_32, vR b37, vR b47, vU, vU, vU] [(.ref b_27), (.ref b37)]) t) => q149 t (by
        show Go _ _ _ _ (mkF m 61 #[vI p1, vI p2, vI p3, vI p4, vI p5, vI ((p1 &&& (2147483647 : Int32)) % (4 : Int32)), vR b_22, vR b_27, vR b_32, vR b37, vR b47, vU, vU, vU] [(.int 2), (.int ((p1 &&& (2147483647 : Int32)) % (4 : Int32)))]) _
        refine XS.icmpNo X143.here hx rfl (hb hby at_61) rfl (flt hc150).1 ?_
        show Go _ _ _ _ (mkF m 64 _ []) _
        refine XS.aload X143.here hx rfl (hb hby at_64) rfl rfl ?_
        show Go _ _ _ _ (mkF m 66 _ [(.ref b37)]) _
        refine XS.aload X143.here hx rfl (hb hby at_66) rfl rfl ?_
        exact kt)
      obtain ⟨cq275, kq275, q275a, q275b, q275c⟩ := isOf hZ rfl f270
      obtain ⟨_, _, ⟨T274, L274, k274, n274⟩, -, X274, ⟨_, hQ274, l274, y274, z274⟩, st274⟩ := X143.virtualBack hx (y := ym12) (z := ym12) hown (ow hZ hw 184 rfl) (ow hZ hw 185 rfl) (notFace_of_selects (args := #[]) (ow hZ hw 187 rfl)) (ow hZ hw 187 rfl) (ow hZ hw 186 rfl) (by decide) (backOf (W := 0) (rm22_1 l Z a0 hw [] cx b37 b_27 b_143 b_22 kb_143 (z'_143) T143.heap n0 O147 f270 f271 fq143_0 fq143_1 fq143_2 fq143_3 gg38 gg146 pq143_0 ne272) hZ (ox hw 188 rfl) (ox hw 53 rfl) (by decide) (by decide)) q275a q275c (g := (mkF m 68 #[vI p1, vI p2, vI p3, vI p4, vI p5, vI ((p1 &&& (2147483647 : Int32)) % (4 : Int32)), vR b_22, vR b_27, vR b_32, vR b37, vR b47, vU, vU, vU] [(.ref b_27), (.ref b37)])) rfl (by rw [hml]; rfl) (Steps.refl _) (argsL := [(.ref b_27)]) (rest := []) (lenOf pd_33 rfl) rfl own_le0 (hb hby at_68) (fun _ _ => ⟨rfl, rfl, (by decide : 18 + 0 ≤ _), (by decide : 85 + 0 ≤ _)⟩)
      dsimp only [Pt.U, Pt.locs, Pt.cells, Pt.slots] at X274 l274 y274 z274 st274 hQ274
      subst l274 y274 z274
      obtain ⟨z'_274, rfl, Nq274, Kq274, fq274_0, fq274_1, fq274_2, fq274_3, pq274_0⟩ := hQ274
      have N276 := Fr.app N145 Nq274
      have O277 := O147.keep Kq274 (allS gg38 (allS gg146 all0))
      have hk278 : _ ≤ T274.heap.size := Nat.le_trans hk148 Kq274.1
      have q279 := fun t (kt : Go p e below T274 (mkF m 75 #[vI p1, vI p2, vI p3, vI p4, vI p5, vI ((p1 &&& (2147483647 : Int32)) % (4 : Int32)), vR b_22, vR b_27, vR b_32, vR b37, vR b47, vU, vU, vU] [(.int 3), (.int ((p1 &&& (2147483647 : Int32)) % (4 : Int32)))]) t) => q273 t (st274.trans (by
        show Go _ _ _ _ (mkF m 71 #[vI p1, vI p2, vI p3, vI p4, vI p5, vI ((p1 &&& (2147483647 : Int32)) % (4 : Int32)), vR b_22, vR b_27, vR b_32, vR b37, vR b47, vU, vU, vU] [(.int 1)]) _
        refine XS.pop X274.here hx rfl (hb hby at_71) rfl rfl ?_
        show Go _ _ _ _ (mkF m 72 _ []) _
        refine XS.iload X274.here hx rfl (hb hby at_72) rfl ?_
        show Go _ _ _ _ (mkF m 74 _ [(.int ((p1 &&& (2147483647 : Int32)) % (4 : Int32)))]) _
        refine XS.iconst X274.here hx rfl (hb hby at_74) ?_
        exact kt))
      by_cases hc280 : ((p1 &&& (2147483647 : Int32)) % (4 : Int32)) < (3 : Int32)
      · have q281 := fun t (kt : Go p e below T274 (mkF m 86 #[vI p1, vI p2, vI p3, vI p4, vI p5, vI ((p1 &&& (2147483647 : Int32)) % (4 : Int32)), vR b_22, vR b_27, vR b_32, vR b37, vR b47, vU, vU, vU] []) t) => q279 t (by
          show Go _ _ _ _ (mkF m 75 #[vI p1, vI p2, vI p3, vI p4, vI p5, vI ((p1 &&& (2147483647 : Int32)) % (4 : Int32)), vR b_22, vR b_27, vR b_32, vR b37, vR b47, vU, vU, vU] [(.int 3), (.int ((p1 &&& (2147483647 : Int32)) % (4 : Int32)))]) _
          refine XS.icmpYes X274.here hx rfl (pc0 := 75) (pc' := 86) rfl (hb hby at_75) rfl (tlt hc280).1 (by decide) (by decide) ?_
          exact kt)
        obtain ⟨T282, h282, lo282, vv, ob, X282, e282, O282, N282, sk282, mf282_0, mf282_1, q282⟩ : ∃ (T282 : State) (h282 : Heap) (lo282 : List Loc) (vv : Addr) (ob : Addr), Stand p l e room_1 (s.setVm T32.vm) m #[(.int p1), (.int p2), (.int p3), (.int p4), (.int p5)] below meth c T282 lo282 30 145 ∧ T282.heap = h282 ∧ Old Z n0 h282 ∧ Fr n0 lo282 ∧ T274.heap.size ≤ h282.size ∧ Exa Z h282 ob sk24 ∧ Fld Z h282 ob sk24 "value" sk3 (own_find (cw 1) [((own_sts cw p2), (own_stp cw p2)), ((own_sts cw p3), (own_stp cw p3))]) ∧ ∀ t, Go p e below T282 (mkF m 131 #[vI p1, vI p2, vI p3, vI p4, vI p5, vI ((p1 &&& (2147483647 : Int32)) % (4 : Int32)), vR b_22, vR b_27, vR b_32, vR b37, vR b47, vR vv, vR ob, vU] []) t → Go p e below s₁ (entryFrame m #[(.int p1), (.int p2), (.int p3), (.int p4), (.int p5)] maxLocals) t := by
          skip
          have q283 := fun t (kt : Go p e below T274 (mkF m 90 #[vI p1, vI p2, vI p3, vI p4, vI p5, vI ((p1 &&& (2147483647 : Int32)) % (4 : Int32)), vR b_22, vR b_27, vR b_32, vR b37, vR b47, vU, vU, vU] [(.int (p5 &&& (1 : Int32)))]) t) => q281 t (by
            show Go _ _ _ _ (mkF m 86 #[vI p1, vI p2, vI p3, vI p4, vI p5, vI ((p1 &&& (2147483647 : Int32)) % (4 : Int32)), vR b_22, vR b_27, vR b_32, vR b37, vR b47, vU, vU, vU] []) _
            refine XS.iload X274.here hx rfl (hb hby at_86) rfl ?_
            show Go _ _ _ _ (mkF m 88 _ [(.int p5)]) _
            refine XS.iconst X274.here hx rfl (hb hby at_88) ?_
            show Go _ _ _ _ (mkF m 89 _ [(.int 1), (.int p5)]) _
            refine XS.iand X274.here hx rfl (hb hby at_89) rfl ?_
            exact kt)
          by_cases hc284 : (p5 &&& (1 : Int32)) = (0 : Int32)
          · have q285 := fun t (kt : Go p e below T274 (mkF m 111 #[vI p1, vI p2, vI p3, vI p4, vI p5, vI ((p1 &&& (2147483647 : Int32)) % (4 : Int32)), vR b_22, vR b_27, vR b_32, vR b37, vR b47, vU, vU, vU] []) t) => q283 t (by
              show Go _ _ _ _ (mkF m 90 #[vI p1, vI p2, vI p3, vI p4, vI p5, vI ((p1 &&& (2147483647 : Int32)) % (4 : Int32)), vR b_22, vR b_27, vR b_32, vR b37, vR b47, vU, vU, vU] [(.int (p5 &&& (1 : Int32)))]) _
              refine XS.ifYes X274.here hx rfl (pc0 := 90) (pc' := 111) rfl (hb hby at_90) rfl ((if0 _ _).trans (teq hc284).1) (by decide) (by decide) ?_
              exact kt)
            obtain ⟨T286, h286, X286, e286, E286, A286, D286, U286, st286⟩ := newO X274 hx hZ hown (ox hw 75 rfl) (ox hw 76 rfl) (ox hw 77 rfl) rfl (g := (mkF m 111 #[vI p1, vI p2, vI p3, vI p4, vI p5, vI ((p1 &&& (2147483647 : Int32)) % (4 : Int32)), vR b_22, vR b_27, vR b_32, vR b37, vR b47, vU, vU, vU] [])) rfl (hb hby at_111) (by decide) (by decide)
            obtain ⟨b286, g286⟩ : ∃ z, z = T274.heap.size := ⟨_, rfl⟩
            rw [← g286] at A286 D286 st286
            have gg287 : n0 ≤ b286 := Nat.le_trans (O277.1 ▸ O277.2.1) (Nat.le_of_eq g286.symm)
            have O288 := O277.ext E286
            have hk289 : _ ≤ h286.size := Nat.le_trans hk278 E286.1
            have F286_outcomes : Fld Z h286 b286 sk8 "outcomes" sk5 .null := D286 (Or.inr (ox hw 112 rfl)) (ty := (.object sk23)) (by decide)
            have F286_notes : Fld Z h286 b286 sk8 "notes" sk5 .null := D286 (Or.inr (ox hw 114 rfl)) (ty := (.object sk23)) (by decide)
            have f290 := ((f270.keep Kq274).ext E286)
            have f291 := (fq274_2.ext E286)
            have f292 := (fq274_1.ext E286)
            have f293 := (fq274_3.ext E286)
            have f294 := ((fq143_4.keep Kq274).ext E286)
            have f295 := (((f137.keep Kq143).keep Kq274).ext E286)
            have f296 := ((f271.keep Kq274).ext E286)
            have f297 := ((((A47.keep Kq52).keep Kq143).keep Kq274).ext E286)
            have ne298 : b47 ≠ b_143 := (Nat.ne_of_lt (Nat.lt_of_lt_of_le (A47.keep Kq52).lt fr143_0))
            have f299 := (((fq52_2.keep Kq143 (ninS (Ne.symm ne138) nin0)).keep Kq274 (ninS (Ne.symm ne138) (ninS ne298 nin0))).ext E286)
            have q300 := fun t (kt : Go p e below T286 (mkF m 119 #[vI p1, vI p2, vI p3, vI p4, vI p5, vI ((p1 &&& (2147483647 : Int32)) % (4 : Int32)), vR b_22, vR b_27, vR b_32, vR b37, vR b47, vU, vU, vU] [(.ref b47), (.ref b37), (.ref b286), (.ref b286)]) t) => q285 t (st286 t (by
              show Go _ _ _ _ (mkF m 114 #[vI p1, vI p2, vI p3, vI p4, vI p5, vI ((p1 &&& (2147483647 : Int32)) % (4 : Int32)), vR b_22, vR b_27, vR b_32, vR b37, vR b47, vU, vU, vU] [(.ref b286)]) _
              refine XS.dup X286.here hx rfl (hb hby at_114) rfl rfl ?_
              show Go _ _ _ _ (mkF m 115 _ [(.ref b286), (.ref b286)]) _
              refine XS.aload X286.here hx rfl (hb hby at_115) rfl rfl ?_
              show Go _ _ _ _ (mkF m 117 _ [(.ref b37), (.ref b286), (.ref b286)]) _
              refine XS.aload X286.here hx rfl (hb hby at_117) rfl rfl ?_
              exact kt))
            obtain ⟨_, _, ⟨T301, L301, k301, n301⟩, -, X301, ⟨_, hQ301, l301, y301, z301⟩, st301⟩ := X286.specialBack hx (y := ym35) rfl hown (ow hZ hw 78 rfl) (ow hZ hw 79 rfl) (ow hZ hw 80 rfl) (by decide) (backOf (W := 1) (rm10_20 l Z a0 hw [] cx b286 b37 b47 b_143 b_22 b_27 kb_143 h286 n0 O288 A286 F286_outcomes F286_notes f290 f291 f292 f293 f294 f295 f296 f297 f299 gg287) hZ (ox hw 80 rfl) (ox hw 77 rfl) (by decide) (by decide)) (g := (mkF m 119 #[vI p1, vI p2, vI p3, vI p4, vI p5, vI ((p1 &&& (2147483647 : Int32)) % (4 : Int32)), vR b_22, vR b_27, vR b_32, vR b37, vR b47, vU, vU, vU] [(.ref b47), (.ref b37), (.ref b286), (.ref b286)])) rfl (by rw [hml]; rfl) (Steps.refl _) (a := b286) (argsL := [(.ref b37), (.ref b47)]) (rest := [(.ref b286)]) (lenOf pd_31 rfl) rfl own_le0 (hb hby at_119) (fun _ _ => ⟨rfl, e286, (by decide : 19 + 2 ≤ _), (by decide : 87 + 4 ≤ _)⟩)
            dsimp only [Pt.U, Pt.locs, Pt.cells, Pt.slots] at X301 l301 y301 z301 st301 hQ301
            subst l301 y301 z301
            obtain ⟨r_301, rfl, Nq301, Kq301, fr301_0, fq301_0, fq301_1, fq301_2, fq301_3⟩ := hQ301
            have N302 := Fr.app N276 Nq301
            have gg303 : n0 ≤ r_301 := Nat.le_trans (O288.1 ▸ O288.2.1) fr301_0
            have O304 := O288.keep Kq301 (allS gg287 all0)
            have hk305 : _ ≤ T301.heap.size := Nat.le_trans hk289 Kq301.1
            have f306 := (f295.keep Kq301)
            have ne307 : b_22 ≠ b37 := (Nat.ne_of_lt (Nat.lt_of_lt_of_le ((fq22_0.keep Kq27).keep Kq32).lt (Nat.le_of_eq g37.symm)))
            have ne308 : b_22 ≠ b47 := (Nat.ne_of_lt (Nat.lt_of_lt_of_le ((((fq22_0.keep Kq27).keep Kq32).ext E37).keep Kq42).lt (Nat.le_of_eq g47.symm)))
            have ne309 : b_22 ≠ b_143 := (Nat.ne_of_lt (Nat.lt_of_lt_of_le f137.lt fr143_0))
            have ne310 : b_22 ≠ b286 := (Nat.ne_of_lt (Nat.lt_of_lt_of_le ((f137.keep Kq143).keep Kq274).lt (Nat.le_of_eq g286.symm)))
            have f311 := ((((((((((fq22_1.keep Kq27 nin0).keep Kq32 nin0).ext E37).keep Kq42 (ninS ne307 nin0)).ext E47).keep Kq52 (ninS ne308 nin0)).keep Kq143 (ninS ne307 nin0)).keep Kq274 (ninS ne307 (ninS ne309 nin0))).ext E286).keep Kq301 (ninS ne310 nin0))
            have f312 := ((((((((((fq22_2.keep Kq27 nin0).keep Kq32 nin0).ext E37).keep Kq42 (ninS ne307 nin0)).ext E47).keep Kq52 (ninS ne308 nin0)).keep Kq143 (ninS ne307 nin0)).keep Kq274 (ninS ne307 (ninS ne309 nin0))).ext E286).keep Kq301 (ninS ne310 nin0))
            have f313 := (f296.keep Kq301)
            have ne314 : b_27 ≠ b37 := (Nat.ne_of_lt (Nat.lt_of_lt_of_le (fq27_0.keep Kq32).lt (Nat.le_of_eq g37.symm)))
            have ne315 : b_27 ≠ b47 := (Nat.ne_of_lt (Nat.lt_of_lt_of_le (((fq27_0.keep Kq32).ext E37).keep Kq42).lt (Nat.le_of_eq g47.symm)))
            have ne316 : b_27 ≠ b_143 := (Nat.ne_of_lt (Nat.lt_of_lt_of_le (((((fq27_0.keep Kq32).ext E37).keep Kq42).ext E47).keep Kq52).lt fr143_0))
            have ne317 : b_27 ≠ b286 := (Nat.ne_of_lt (Nat.lt_of_lt_of_le (f271.keep Kq274).lt (Nat.le_of_eq g286.symm)))
            have f318 := (((((((((fq27_1.keep Kq32 nin0).ext E37).keep Kq42 (ninS ne314 nin0)).ext E47).keep Kq52 (ninS ne315 nin0)).keep Kq143 (ninS ne314 nin0)).keep Kq274 (ninS ne314 (ninS ne316 nin0))).ext E286).keep Kq301 (ninS ne317 nin0))
            have f319 := (((((((((fq27_2.keep Kq32 nin0).ext E37).keep Kq42 (ninS ne314 nin0)).ext E47).keep Kq52 (ninS ne315 nin0)).keep Kq143 (ninS ne314 nin0)).keep Kq274 (ninS ne314 (ninS ne316 nin0))).ext E286).keep Kq301 (ninS ne317 nin0))
            have q320 := fun t (kt : Go p e below T301 (mkF m 126 #[vI p1, vI p2, vI p3, vI p4, vI p5, vI ((p1 &&& (2147483647 : Int32)) % (4 : Int32)), vR b_22, vR b_27, vR b_32, vR b37, vR b47, vR b286, vU, vU] [(.ref b286)]) t) => q300 t (st301.trans (by
              show Go _ _ _ _ (mkF m 122 #[vI p1, vI p2, vI p3, vI p4, vI p5, vI ((p1 &&& (2147483647 : Int32)) % (4 : Int32)), vR b_22, vR b_27, vR b_32, vR b37, vR b47, vU, vU, vU] [(.ref b286)]) _
              refine XS.astore X301.here hx rfl (hb hby at_122) rfl rfl (l' := #[vI p1, vI p2, vI p3, vI p4, vI p5, vI ((p1 &&& (2147483647 : Int32)) % (4 : Int32)), vR b_22, vR b_27, vR b_32, vR b37, vR b47, vR b286, vU, vU]) rfl ?_
              show Go _ _ _ _ (mkF m 124 #[vI p1, vI p2, vI p3, vI p4, vI p5, vI ((p1 &&& (2147483647 : Int32)) % (4 : Int32)), vR b_22, vR b_27, vR b_32, vR b37, vR b47, vR b286, vU, vU] []) _
              refine XS.aload X301.here hx rfl (hb hby at_124) rfl rfl ?_
              exact kt))
            have f323 := (A286.keep Kq301)
            obtain ⟨cq322, kq322, q322a, q322b, q322c⟩ := isOf hZ rfl f323
            obtain ⟨_, _, ⟨T321, L321, k321, n321⟩, -, X321, ⟨_, hQ321, l321, y321, z321⟩, st321⟩ := X301.virtualBack hx (y := ym54) (z := ym54) hown (ow hZ hw 115 rfl) (ow hZ hw 116 rfl) (notFace_of_selects (args := #[]) (ow hZ hw 118 rfl)) (ow hZ hw 118 rfl) (ow hZ hw 117 rfl) (by decide) (backOf (W := 0) (rm15_2 l Z a0 hw [] cx b286 r_301 b_22 b_27 (own_sts cw p2) (own_sts cw p3) (own_stp cw p2) (own_stp cw p3) T301.heap n0 O304 fq301_0 fq301_1 fq301_2 fq301_3 f306 f311 f312 f313 f318 f319 gg24 gg29) hZ (ox hw 119 rfl) (ox hw 77 rfl) (by decide) (by decide)) q322a q322c (g := (mkF m 126 #[vI p1, vI p2, vI p3, vI p4, vI p5, vI ((p1 &&& (2147483647 : Int32)) % (4 : Int32)), vR b_22, vR b_27, vR b_32, vR b37, vR b47, vR b286, vU, vU] [(.ref b286)])) rfl (by rw [hml]; rfl) (Steps.refl _) (argsL := []) (rest := []) (lenOf pd_25 rfl) rfl own_le0 (hb hby at_126) (fun _ _ => ⟨rfl, rfl, (by decide : 21 + 2 ≤ _), (by decide : 91 + 5 ≤ _)⟩)
            dsimp only [Pt.U, Pt.locs, Pt.cells, Pt.slots] at X321 l321 y321 z321 st321 hQ321
            subst l321 y321 z321
            obtain ⟨b_321, rfl, Nq321, Kq321, fq321_0, fq321_1⟩ := hQ321
            have N324 := Fr.app N302 Nq321
            have O325 := O304.keep Kq321 all0
            have hk326 : _ ≤ T321.heap.size := Nat.le_trans hk305 Kq321.1
            have q327 := fun t (kt : Go p e below T321 (mkF m 131 #[vI p1, vI p2, vI p3, vI p4, vI p5, vI ((p1 &&& (2147483647 : Int32)) % (4 : Int32)), vR b_22, vR b_27, vR b_32, vR b37, vR b47, vR b286, vR b_321, vU] []) t) => q320 t (st321.trans (by
              show Go _ _ _ _ (mkF m 129 #[vI p1, vI p2, vI p3, vI p4, vI p5, vI ((p1 &&& (2147483647 : Int32)) % (4 : Int32)), vR b_22, vR b_27, vR b_32, vR b37, vR b47, vR b286, vU, vU] [(.ref b_321)]) _
              refine XS.astore X321.here hx rfl (hb hby at_129) rfl rfl (l' := #[vI p1, vI p2, vI p3, vI p4, vI p5, vI ((p1 &&& (2147483647 : Int32)) % (4 : Int32)), vR b_22, vR b_27, vR b_32, vR b37, vR b47, vR b286, vR b_321, vU]) rfl ?_
              exact kt))
            exact ⟨T321, T321.heap, _, b286, b_321, X321.mono (by decide) (by decide), rfl, O325, N324, (Nat.le_trans (Nat.le_trans (Nat.le_trans (Nat.le_refl _) E286.1) Kq301.1) Kq321.1), fq321_0, fq321_1, q327⟩
          · have q328 := fun t (kt : Go p e below T274 (mkF m 104 #[vI p1, vI p2, vI p3, vI p4, vI p5, vI ((p1 &&& (2147483647 : Int32)) % (4 : Int32)), vR b_22, vR b_27, vR b_32, vR b37, vR b47, vU, vU, vU] [(.int ((((p5.toUInt32 >>> ((1 : Int32) &&& 31).toUInt32).toInt32) &&& (255 : Int32)).toUInt32.toUInt16.toUInt32.toInt32)), (.ref b47)]) t) => q283 t (by
              show Go _ _ _ _ (mkF m 90 #[vI p1, vI p2, vI p3, vI p4, vI p5, vI ((p1 &&& (2147483647 : Int32)) % (4 : Int32)), vR b_22, vR b_27, vR b_32, vR b37, vR b47, vU, vU, vU] [(.int (p5 &&& (1 : Int32)))]) _
              refine XS.ifNo X274.here hx rfl (hb hby at_90) rfl ((if0 _ _).trans (feq hc284).1) ?_
              show Go _ _ _ _ (mkF m 93 _ []) _
              refine XS.aload X274.here hx rfl (hb hby at_93) rfl rfl ?_
              show Go _ _ _ _ (mkF m 95 _ [(.ref b47)]) _
              refine XS.iload X274.here hx rfl (hb hby at_95) rfl ?_
              show Go _ _ _ _ (mkF m 97 _ [(.int p5), (.ref b47)]) _
              refine XS.iconst X274.here hx rfl (hb hby at_97) ?_
              show Go _ _ _ _ (mkF m 98 _ [(.int 1), (.int p5), (.ref b47)]) _
              refine XS.iushr X274.here hx rfl (hb hby at_98) rfl ?_
              show Go _ _ _ _ (mkF m 99 _ [(.int ((p5.toUInt32 >>> ((1 : Int32) &&& 31).toUInt32).toInt32)), (.ref b47)]) _
              refine XS.sipush X274.here hx rfl (hb hby at_99) ?_
              show Go _ _ _ _ (mkF m 102 _ [(.int 255), (.int ((p5.toUInt32 >>> ((1 : Int32) &&& 31).toUInt32).toInt32)), (.ref b47)]) _
              refine XS.iand X274.here hx rfl (hb hby at_102) rfl ?_
              show Go _ _ _ _ (mkF m 103 _ [(.int (((p5.toUInt32 >>> ((1 : Int32) &&& 31).toUInt32).toInt32) &&& (255 : Int32))), (.ref b47)]) _
              refine XS.i2c X274.here hx rfl (hb hby at_103) rfl ?_
              exact kt)
            have q329 := fun t (kt : Go p e below T274 (mkF m 104 #[vI p1, vI p2, vI p3, vI p4, vI p5, vI ((p1 &&& (2147483647 : Int32)) % (4 : Int32)), vR b_22, vR b_27, vR b_32, vR b37, vR b47, vU, vU, vU] [(.int (((p5.toUInt32 >>> ((1 : Int32) &&& 31).toUInt32).toInt32) &&& (255 : Int32))), (.ref b47)]) t) => q328 t (by rw [(i2c_mask ((p5.toUInt32 >>> ((1 : Int32) &&& 31).toUInt32).toInt32))]; exact kt)
            obtain ⟨_, _, ⟨T330, L330, k330, n330⟩, -, X330, ⟨_, hQ330, l330, y330, z330⟩, st330⟩ := Jvm.LawKit.callS X274 hx (y := ym16) hown (ow hZ hw 213 rfl) (ow hZ hw 214 rfl) (ow hZ hw 12 rfl) (ow hZ hw 215 rfl) (by decide) (backOf (W := 1) (rm27 l Z a0 hw [] cx (((p5.toUInt32 >>> ((1 : Int32) &&& 31).toUInt32).toInt32) &&& (255 : Int32)) T274.heap n0 O277 (own_and255 _)) hZ (ox hw 215 rfl) (ox hw 12 rfl) (by decide) (by decide)) (g := (mkF m 104 #[vI p1, vI p2, vI p3, vI p4, vI p5, vI ((p1 &&& (2147483647 : Int32)) % (4 : Int32)), vR b_22, vR b_27, vR b_32, vR b37, vR b47, vU, vU, vU] [(.int (((p5.toUInt32 >>> ((1 : Int32) &&& 31).toUInt32).toInt32) &&& (255 : Int32))), (.ref b47)])) rfl (by rw [hml]; rfl) (argsL := [(.int (((p5.toUInt32 >>> ((1 : Int32) &&& 31).toUInt32).toInt32) &&& (255 : Int32)))]) (rest := [(.ref b47)]) (lenOf pd_32 rfl) rfl own_le0 (hb hby at_104) (fun _ _ => ⟨rfl, rfl, (by decide : 18 + 2 ≤ _), (by decide : 85 + 5 ≤ _)⟩)
            dsimp only [Pt.U, Pt.locs, Pt.cells, Pt.slots] at X330 l330 y330 z330 st330 hQ330
            subst l330 y330 z330
            obtain ⟨b_330, rfl, Nq330, Kq330, fr330_0, fq330_0⟩ := hQ330
            have N331 := Fr.app N276 Nq330
            have gg332 : n0 ≤ b_330 := Nat.le_trans (O277.1 ▸ O277.2.1) fr330_0
            have O333 := O277.keep Kq330 all0
            have hk334 : _ ≤ T330.heap.size := Nat.le_trans hk278 Kq330.1
            have f335 := ((((A47.keep Kq52).keep Kq143).keep Kq274).keep Kq330)
            have ne336 : b47 ≠ b_143 := (Nat.ne_of_lt (Nat.lt_of_lt_of_le (A47.keep Kq52).lt fr143_0))
            have f337 := (((fq52_0.keep Kq143 (ninS (Ne.symm ne138) nin0)).keep Kq274 (ninS (Ne.symm ne138) (ninS ne336 nin0))).keep Kq330 nin0)
            have f338 := (((fq52_1.keep Kq143 (ninS (Ne.symm ne138) nin0)).keep Kq274 (ninS (Ne.symm ne138) (ninS ne336 nin0))).keep Kq330 nin0)
            have f339 := (((fq52_2.keep Kq143 (ninS (Ne.symm ne138) nin0)).keep Kq274 (ninS (Ne.symm ne138) (ninS ne336 nin0))).keep Kq330 nin0)
            obtain ⟨cq341, kq341, q341a, q341b, q341c⟩ := isOf hZ rfl f335
            obtain ⟨_, _, ⟨T340, L340, k340, n340⟩, -, X340, ⟨_, hQ340, l340, y340, z340⟩, st340⟩ := X330.virtualBack hx (y := ym12) (z := ym12) hown (ow hZ hw 184 rfl) (ow hZ hw 185 rfl) (notFace_of_selects (args := #[]) (ow hZ hw 187 rfl)) (ow hZ hw 187 rfl) (ow hZ hw 186 rfl) (by decide) (backOf (W := 0) (rm22_0 l Z a0 hw [] cx (sk15) b47 b_330 (0 : Int32) T330.heap n0 O333 f335 fq330_0 f337 f338 f339 gg48 (ox hw 232 rfl)) hZ (ox hw 188 rfl) (ox hw 53 rfl) (by decide) (by decide)) q341a q341c (g := (mkF m 107 #[vI p1, vI p2, vI p3, vI p4, vI p5, vI ((p1 &&& (2147483647 : Int32)) % (4 : Int32)), vR b_22, vR b_27, vR b_32, vR b37, vR b47, vU, vU, vU] [(.ref b_330), (.ref b47)])) rfl (by rw [hml]; rfl) (Steps.refl _) (argsL := [(.ref b_330)]) (rest := []) (lenOf pd_33 rfl) rfl own_le0 (hb hby at_107) (fun _ _ => ⟨rfl, rfl, (by decide : 20 + 1 ≤ _), (by decide : 90 + 10 ≤ _)⟩)
            dsimp only [Pt.U, Pt.locs, Pt.cells, Pt.slots] at X340 l340 y340 z340 st340 hQ340
            subst l340 y340 z340
            obtain ⟨b_340, kb_340, z'_340, rfl, Nq340, Kq340, fr340_0, fq340_0, fq340_1, fq340_2, fq340_3, fq340_4, pq340_0⟩ := hQ340
            have N342 := Fr.app N331 Nq340
            have gg343 : n0 ≤ b_340 := Nat.le_trans (O333.1 ▸ O333.2.1) fr340_0
            have O344 := O333.keep Kq340 (allS gg48 all0)
            have hk345 : _ ≤ T340.heap.size := Nat.le_trans hk334 Kq340.1
            have q346 := fun t (kt : Go p e below T340 (mkF m 111 #[vI p1, vI p2, vI p3, vI p4, vI p5, vI ((p1 &&& (2147483647 : Int32)) % (4 : Int32)), vR b_22, vR b_27, vR b_32, vR b37, vR b47, vU, vU, vU] []) t) => q329 t (st330 t (st340.trans (by
              show Go _ _ _ _ (mkF m 110 #[vI p1, vI p2, vI p3, vI p4, vI p5, vI ((p1 &&& (2147483647 : Int32)) % (4 : Int32)), vR b_22, vR b_27, vR b_32, vR b37, vR b47, vU, vU, vU] [(.int 1)]) _
              refine XS.pop X340.here hx rfl (hb hby at_110) rfl rfl ?_
              exact kt)))
            obtain ⟨T347, h347, X347, e347, E347, A347, D347, U347, st347⟩ := newO X340 hx hZ hown (ox hw 75 rfl) (ox hw 76 rfl) (ox hw 77 rfl) rfl (g := (mkF m 111 #[vI p1, vI p2, vI p3, vI p4, vI p5, vI ((p1 &&& (2147483647 : Int32)) % (4 : Int32)), vR b_22, vR b_27, vR b_32, vR b37, vR b47, vU, vU, vU] [])) rfl (hb hby at_111) (by decide) (by decide)
            obtain ⟨b347, g347⟩ : ∃ z, z = T340.heap.size := ⟨_, rfl⟩
            rw [← g347] at A347 D347 st347
            have gg348 : n0 ≤ b347 := Nat.le_trans (O344.1 ▸ O344.2.1) (Nat.le_of_eq g347.symm)
            have O349 := O344.ext E347
            have hk350 : _ ≤ h347.size := Nat.le_trans hk345 E347.1
            have F347_outcomes : Fld Z h347 b347 sk8 "outcomes" sk5 .null := D347 (Or.inr (ox hw 112 rfl)) (ty := (.object sk23)) (by decide)
            have F347_notes : Fld Z h347 b347 sk8 "notes" sk5 .null := D347 (Or.inr (ox hw 114 rfl)) (ty := (.object sk23)) (by decide)
            have f351 := ((((f270.keep Kq274).keep Kq330).keep Kq340).ext E347)
            have f352 := (((fq274_2.keep Kq330 nin0).keep Kq340 (ninS ne138 nin0)).ext E347)
            have f353 := (((fq274_1.keep Kq330 nin0).keep Kq340 (ninS ne138 nin0)).ext E347)
            have f354 := (((fq274_3.keep Kq330 nin0).keep Kq340 (ninS (Ne.symm ne336) nin0)).ext E347)
            have f355 := ((((fq143_4.keep Kq274).keep Kq330).keep Kq340).ext E347)
            have f356 := (((((f137.keep Kq143).keep Kq274).keep Kq330).keep Kq340).ext E347)
            have f357 := ((((f271.keep Kq274).keep Kq330).keep Kq340).ext E347)
            have f358 := ((f335.keep Kq340).ext E347)
            have f359 := (fq340_2.ext E347)
            have f360 := (fq340_1.ext E347)
            have f361 := (fq340_3.ext E347)
            have f362 := (fq340_4.ext E347)
            have f363 := ((fq330_0.keep Kq340).ext E347)
            have q364 := fun t (kt : Go p e below T347 (mkF m 119 #[vI p1, vI p2, vI p3, vI p4, vI p5, vI ((p1 &&& (2147483647 : Int32)) % (4 : Int32)), vR b_22, vR b_27, vR b_32, vR b37, vR b47, vU, vU, vU] [(.ref b47), (.ref b37), (.ref b347), (.ref b347)]) t) => q346 t (st347 t (by
              show Go _ _ _ _ (mkF m 114 #[vI p1, vI p2, vI p3, vI p4, vI p5, vI ((p1 &&& (2147483647 : Int32)) % (4 : Int32)), vR b_22, vR b_27, vR b_32, vR b37, vR b47, vU, vU, vU] [(.ref b347)]) _
              refine XS.dup X347.here hx rfl (hb hby at_114) rfl rfl ?_
              show Go _ _ _ _ (mkF m 115 _ [(.ref b347), (.ref b347)]) _
              refine XS.aload X347.here hx rfl (hb hby at_115) rfl rfl ?_
              show Go _ _ _ _ (mkF m 117 _ [(.ref b37), (.ref b347), (.ref b347)]) _
              refine XS.aload X347.here hx rfl (hb hby at_117) rfl rfl ?_
              exact kt))
            obtain ⟨_, _, ⟨T365, L365, k365, n365⟩, -, X365, ⟨_, hQ365, l365, y365, z365⟩, st365⟩ := X347.specialBack hx (y := ym35) rfl hown (ow hZ hw 78 rfl) (ow hZ hw 79 rfl) (ow hZ hw 80 rfl) (by decide) (backOf (W := 1) (rm10_21 l Z a0 hw [] cx b347 b37 b47 b_143 b_22 b_27 kb_143 b_340 b_330 kb_340 h347 n0 O349 A347 F347_outcomes F347_notes f351 f352 f353 f354 f355 f356 f357 f358 f359 f360 f361 f362 f363 gg348) hZ (ox hw 80 rfl) (ox hw 77 rfl) (by decide) (by decide)) (g := (mkF m 119 #[vI p1, vI p2, vI p3, vI p4, vI p5, vI ((p1 &&& (2147483647 : Int32)) % (4 : Int32)), vR b_22, vR b_27, vR b_32, vR b37, vR b47, vU, vU, vU] [(.ref b47), (.ref b37), (.ref b347), (.ref b347)])) rfl (by rw [hml]; rfl) (Steps.refl _) (a := b347) (argsL := [(.ref b37), (.ref b47)]) (rest := [(.ref b347)]) (lenOf pd_31 rfl) rfl own_le0 (hb hby at_119) (fun _ _ => ⟨rfl, e347, (by decide : 22 + 4 ≤ _), (by decide : 102 + 7 ≤ _)⟩)
            dsimp only [Pt.U, Pt.locs, Pt.cells, Pt.slots] at X365 l365 y365 z365 st365 hQ365
            subst l365 y365 z365
            obtain ⟨r_365, rfl, Nq365, Kq365, fr365_0, fq365_0, fq365_1, fq365_2, fq365_3⟩ := hQ365
            have N366 := Fr.app N342 Nq365
            have gg367 : n0 ≤ r_365 := Nat.le_trans (O349.1 ▸ O349.2.1) fr365_0
            have O368 := O349.keep Kq365 (allS gg348 all0)
            have hk369 : _ ≤ T365.heap.size := Nat.le_trans hk350 Kq365.1
            have f370 := (f356.keep Kq365)
            have ne371 : b_22 ≠ b37 := (Nat.ne_of_lt (Nat.lt_of_lt_of_le ((fq22_0.keep Kq27).keep Kq32).lt (Nat.le_of_eq g37.symm)))
            have ne372 : b_22 ≠ b47 := (Nat.ne_of_lt (Nat.lt_of_lt_of_le ((((fq22_0.keep Kq27).keep Kq32).ext E37).keep Kq42).lt (Nat.le_of_eq g47.symm)))
            have ne373 : b_22 ≠ b_143 := (Nat.ne_of_lt (Nat.lt_of_lt_of_le f137.lt fr143_0))
            have ne374 : b_22 ≠ b347 := (Nat.ne_of_lt (Nat.lt_of_lt_of_le ((((f137.keep Kq143).keep Kq274).keep Kq330).keep Kq340).lt (Nat.le_of_eq g347.symm)))
            have f375 := ((((((((((((fq22_1.keep Kq27 nin0).keep Kq32 nin0).ext E37).keep Kq42 (ninS ne371 nin0)).ext E47).keep Kq52 (ninS ne372 nin0)).keep Kq143 (ninS ne371 nin0)).keep Kq274 (ninS ne371 (ninS ne373 nin0))).keep Kq330 nin0).keep Kq340 (ninS ne372 nin0)).ext E347).keep Kq365 (ninS ne374 nin0))
            have f376 := ((((((((((((fq22_2.keep Kq27 nin0).keep Kq32 nin0).ext E37).keep Kq42 (ninS ne371 nin0)).ext E47).keep Kq52 (ninS ne372 nin0)).keep Kq143 (ninS ne371 nin0)).keep Kq274 (ninS ne371 (ninS ne373 nin0))).keep Kq330 nin0).keep Kq340 (ninS ne372 nin0)).ext E347).keep Kq365 (ninS ne374 nin0))
            have f377 := (f357.keep Kq365)
            have ne378 : b_27 ≠ b37 := (Nat.ne_of_lt (Nat.lt_of_lt_of_le (fq27_0.keep Kq32).lt (Nat.le_of_eq g37.symm)))
            have ne379 : b_27 ≠ b47 := (Nat.ne_of_lt (Nat.lt_of_lt_of_le (((fq27_0.keep Kq32).ext E37).keep Kq42).lt (Nat.le_of_eq g47.symm)))
            have ne380 : b_27 ≠ b_143 := (Nat.ne_of_lt (Nat.lt_of_lt_of_le (((((fq27_0.keep Kq32).ext E37).keep Kq42).ext E47).keep Kq52).lt fr143_0))
            have ne381 : b_27 ≠ b347 := (Nat.ne_of_lt (Nat.lt_of_lt_of_le (((f271.keep Kq274).keep Kq330).keep Kq340).lt (Nat.le_of_eq g347.symm)))
            have f382 := (((((((((((fq27_1.keep Kq32 nin0).ext E37).keep Kq42 (ninS ne378 nin0)).ext E47).keep Kq52 (ninS ne379 nin0)).keep Kq143 (ninS ne378 nin0)).keep Kq274 (ninS ne378 (ninS ne380 nin0))).keep Kq330 nin0).keep Kq340 (ninS ne379 nin0)).ext E347).keep Kq365 (ninS ne381 nin0))
            have f383 := (((((((((((fq27_2.keep Kq32 nin0).ext E37).keep Kq42 (ninS ne378 nin0)).ext E47).keep Kq52 (ninS ne379 nin0)).keep Kq143 (ninS ne378 nin0)).keep Kq274 (ninS ne378 (ninS ne380 nin0))).keep Kq330 nin0).keep Kq340 (ninS ne379 nin0)).ext E347).keep Kq365 (ninS ne381 nin0))
            have q384 := fun t (kt : Go p e below T365 (mkF m 126 #[vI p1, vI p2, vI p3, vI p4, vI p5, vI ((p1 &&& (2147483647 : Int32)) % (4 : Int32)), vR b_22, vR b_27, vR b_32, vR b37, vR b47, vR b347, vU, vU] [(.ref b347)]) t) => q364 t (st365.trans (by
              show Go _ _ _ _ (mkF m 122 #[vI p1, vI p2, vI p3, vI p4, vI p5, vI ((p1 &&& (2147483647 : Int32)) % (4 : Int32)), vR b_22, vR b_27, vR b_32, vR b37, vR b47, vU, vU, vU] [(.ref b347)]) _
              refine XS.astore X365.here hx rfl (hb hby at_122) rfl rfl (l' := #[vI p1, vI p2, vI p3, vI p4, vI p5, vI ((p1 &&& (2147483647 : Int32)) % (4 : Int32)), vR b_22, vR b_27, vR b_32, vR b37, vR b47, vR b347, vU, vU]) rfl ?_
              show Go _ _ _ _ (mkF m 124 #[vI p1, vI p2, vI p3, vI p4, vI p5, vI ((p1 &&& (2147483647 : Int32)) % (4 : Int32)), vR b_22, vR b_27, vR b_32, vR b37, vR b47, vR b347, vU, vU] []) _
              refine XS.aload X365.here hx rfl (hb hby at_124) rfl rfl ?_
              exact kt))
            have f387 := (A347.keep Kq365)
            obtain ⟨cq386, kq386, q386a, q386b, q386c⟩ := isOf hZ rfl f387
            obtain ⟨_, _, ⟨T385, L385, k385, n385⟩, -, X385, ⟨_, hQ385, l385, y385, z385⟩, st385⟩ := X365.virtualBack hx (y := ym54) (z := ym54) hown (ow hZ hw 115 rfl) (ow hZ hw 116 rfl) (notFace_of_selects (args := #[]) (ow hZ hw 118 rfl)) (ow hZ hw 118 rfl) (ow hZ hw 117 rfl) (by decide) (backOf (W := 0) (rm15_2 l Z a0 hw [] cx b347 r_365 b_22 b_27 (own_sts cw p2) (own_sts cw p3) (own_stp cw p2) (own_stp cw p3) T365.heap n0 O368 fq365_0 fq365_1 fq365_2 fq365_3 f370 f375 f376 f377 f382 f383 gg24 gg29) hZ (ox hw 119 rfl) (ox hw 77 rfl) (by decide) (by decide)) q386a q386c (g := (mkF m 126 #[vI p1, vI p2, vI p3, vI p4, vI p5, vI ((p1 &&& (2147483647 : Int32)) % (4 : Int32)), vR b_22, vR b_27, vR b_32, vR b37, vR b47, vR b347, vU, vU] [(.ref b347)])) rfl (by rw [hml]; rfl) (Steps.refl _) (argsL := []) (rest := []) (lenOf pd_25 rfl) rfl own_le0 (hb hby at_126) (fun _ _ => ⟨rfl, rfl, (by decide : 26 + 2 ≤ _), (by decide : 109 + 5 ≤ _)⟩)
            dsimp only [Pt.U, Pt.locs, Pt.cells, Pt.slots] at X385 l385 y385 z385 st385 hQ385
            subst l385 y385 z385
            obtain ⟨b_385, rfl, Nq385, Kq385, fq385_0, fq385_1⟩ := hQ385
            have N388 := Fr.app N366 Nq385
            have O389 := O368.keep Kq385 all0
            have hk390 : _ ≤ T385.heap.size := Nat.le_trans hk369 Kq385.1
            have q391 := fun t (kt : Go p e below T385 (mkF m 131 #[vI p1, vI p2, vI p3, vI p4, vI p5, vI ((p1 &&& (2147483647 : Int32)) % (4 : Int32)), vR b_22, vR b_27, vR b_32, vR b37, vR b47, vR b347, vR b_385, vU] []) t) => q384 t (st385.trans (by
              show Go _ _ _ _ (mkF m 129 #[vI p1, vI p2, vI p3, vI p4, vI p5, vI ((p1 &&& (2147483647 : Int32)) % (4 : Int32)), vR b_22, vR b_27, vR b_32, vR b37, vR b47, vR b347, vU, vU] [(.ref b_385)]) _
              refine XS.astore X385.here hx rfl (hb hby at_129) rfl rfl (l' := #[vI p1, vI p2, vI p3, vI p4, vI p5, vI ((p1 &&& (2147483647 : Int32)) % (4 : Int32)), vR b_22, vR b_27, vR b_32, vR b37, vR b47, vR b347, vR b_385, vU]) rfl ?_
              exact kt))
            exact ⟨T385, T385.heap, _, b347, b_385, X385.mono (by decide) (by decide), rfl, O389, N388, (Nat.le_trans (Nat.le_trans (Nat.le_trans (Nat.le_trans (Nat.le_trans (Nat.le_refl _) Kq330.1) Kq340.1) E347.1) Kq365.1) Kq385.1), fq385_0, fq385_1, q391⟩
        have hk282 := Nat.le_trans hk278 sk282
        have q392 := fun t (kt : Go p e below T282 (mkF m 141 #[vI p1, vI p2, vI p3, vI p4, vI p5, vI ((p1 &&& (2147483647 : Int32)) % (4 : Int32)), vR b_22, vR b_27, vR b_32, vR b37, vR b47, vR vv, vR ob, vN] [(.int p2)]) t) => q282 t (by
          show Go _ _ _ _ (mkF m 131 #[vI p1, vI p2, vI p3, vI p4, vI p5, vI ((p1 &&& (2147483647 : Int32)) % (4 : Int32)), vR b_22, vR b_27, vR b_32, vR b37, vR b47, vR vv, vR ob, vU] []) _
          refine XS.aconstNull X282.here hx rfl (hb hby at_131) ?_
          show Go _ _ _ _ (mkF m 132 _ [.null]) _
          refine XS.astore X282.here hx rfl (hb hby at_132) rfl rfl (l' := #[vI p1, vI p2, vI p3, vI p4, vI p5, vI ((p1 &&& (2147483647 : Int32)) % (4 : Int32)), vR b_22, vR b_27, vR b_32, vR b37, vR b47, vR vv, vR ob, vN]) rfl ?_
          show Go _ _ _ _ (mkF m 134 #[vI p1, vI p2, vI p3, vI p4, vI p5, vI ((p1 &&& (2147483647 : Int32)) % (4 : Int32)), vR b_22, vR b_27, vR b_32, vR b37, vR b47, vR vv, vR ob, vN] []) _
          refine XS.iload X282.here hx rfl (hb hby at_134) rfl ?_
          show Go _ _ _ _ (mkF m 136 _ [(.int ((p1 &&& (2147483647 : Int32)) % (4 : Int32)))]) _
          refine XS.iconst X282.here hx rfl (hb hby at_136) ?_
          show Go _ _ _ _ (mkF m 137 _ [(.int 1), (.int ((p1 &&& (2147483647 : Int32)) % (4 : Int32)))]) _
          refine XS.icmpNo X282.here hx rfl (hb hby at_137) rfl (flt hc57).1 ?_
          show Go _ _ _ _ (mkF m 140 _ []) _
          refine XS.iloadN X282.here hx rfl (hb hby at_140) rfl ?_
          exact kt)
        obtain ⟨_, _, ⟨T393, L393, k393, n393⟩, -, X393, ⟨_, hQ393, l393, y393, z393⟩, st393⟩ := Jvm.LawKit.callS X282 hx (y := ym5) hown (ow hZ hw 5 rfl) (ow hZ hw 6 rfl) (ow hZ hw 3 rfl) (ow hZ hw 7 rfl) (by decide) (backOf (W := 0) (rm2 l Z a0 hw [] cx p2 h282 n0 O282 ) hZ (ox hw 7 rfl) (ox hw 3 rfl) (by decide) (by decide)) (g := (mkF m 141 #[vI p1, vI p2, vI p3, vI p4, vI p5, vI ((p1 &&& (2147483647 : Int32)) % (4 : Int32)), vR b_22, vR b_27, vR b_32, vR b37, vR b47, vR vv, vR ob, vN] [(.int p2)])) rfl (by rw [hml]; rfl) (argsL := [(.int p2)]) (rest := []) (lenOf pd_1 rfl) rfl own_le0 (hb hby at_141) (fun _ _ => ⟨rfl, e282, (by decide : 30 + 0 ≤ _), (by decide : 145 + 0 ≤ _)⟩)
        dsimp only [Pt.U, Pt.locs, Pt.cells, Pt.slots] at X393 l393 y393 z393 st393 hQ393
        subst l393 y393 z393
        obtain ⟨rfl, Nq393, eq393⟩ := hQ393
        have N394 := Fr.app N282 Nq393
        obtain ⟨T395, X395, e395, st395⟩ := getS2 X393 hx hZ hown (host := "") (Or.inl (ox hw 19 rfl)) Via.refl eq393 (cx.2.2.1.ext O282.2) (g := (mkF m 144 #[vI p1, vI p2, vI p3, vI p4, vI p5, vI ((p1 &&& (2147483647 : Int32)) % (4 : Int32)), vR b_22, vR b_27, vR b_32, vR b37, vR b47, vR vv, vR ob, vN] [(.ref (own_sts cw p2))])) rfl (hb hby at_144)
        have q396 := fun t (kt : Go p e below T395 (mkF m 147 #[vI p1, vI p2, vI p3, vI p4, vI p5, vI ((p1 &&& (2147483647 : Int32)) % (4 : Int32)), vR b_22, vR b_27, vR b_32, vR b37, vR b47, vR vv, vR ob, vN] [(.ref (cw 1)), (.ref (own_sts cw p2))]) t) => q392 t (st393 t (st395 t kt))
        by_cases hc397 : (own_sts cw p2) = (cw 1)
        · have q398 := fun t (kt : Go p e below T395 (mkF m 151 #[vI p1, vI p2, vI p3, vI p4, vI p5, vI ((p1 &&& (2147483647 : Int32)) % (4 : Int32)), vR b_22, vR b_27, vR b_32, vR b37, vR b47, vR vv, vR ob, vN] [(.int p2)]) t) => q396 t (by
            show Go _ _ _ _ (mkF m 147 #[vI p1, vI p2, vI p3, vI p4, vI p5, vI ((p1 &&& (2147483647 : Int32)) % (4 : Int32)), vR b_22, vR b_27, vR b_32, vR b37, vR b47, vR vv, vR ob, vN] [(.ref (cw 1)), (.ref (own_sts cw p2))]) _
            refine Jvm.RoadKit.acmp (g := (mkF m 147 #[vI p1, vI p2, vI p3, vI p4, vI p5, vI ((p1 &&& (2147483647 : Int32)) % (4 : Int32)), vR b_22, vR b_27, vR b_32, vR b37, vR b47, vR vv, vR ob, vN] [(.ref (cw 1)), (.ref (own_sts cw p2))])) X395 hx rfl rfl rfl (pc0 := 147) (pc' := 150) (same := true) rfl (hb hby at_147) rfl (decide_eq_true (congrArg Value.ref hc397)) (by decide) (by decide) ?_
            show Go _ _ _ _ (mkF m 150 _ []) _
            refine XS.iloadN X395.here hx rfl (hb hby at_150) rfl ?_
            exact kt)
          obtain ⟨_, _, ⟨T399, L399, k399, n399⟩, -, X399, ⟨_, hQ399, l399, y399, z399⟩, st399⟩ := Jvm.LawKit.callS X395 hx (y := ym6) hown (ow hZ hw 24 rfl) (ow hZ hw 25 rfl) (ow hZ hw 3 rfl) (ow hZ hw 26 rfl) (by decide) (backOf (W := 0) (rm3 l Z a0 hw [] cx p2 h282 n0 O282 ) hZ (ox hw 26 rfl) (ox hw 3 rfl) (by decide) (by decide)) (g := (mkF m 151 #[vI p1, vI p2, vI p3, vI p4, vI p5, vI ((p1 &&& (2147483647 : Int32)) % (4 : Int32)), vR b_22, vR b_27, vR b_32, vR b37, vR b47, vR vv, vR ob, vN] [(.int p2)])) rfl (by rw [hml]; rfl) (argsL := [(.int p2)]) (rest := []) (lenOf pd_2 rfl) rfl own_le0 (hb hby at_151) (fun _ _ => ⟨rfl, e395, (by decide : 30 + 0 ≤ _), (by decide : 145 + 0 ≤ _)⟩)
          dsimp only [Pt.U, Pt.locs, Pt.cells, Pt.slots] at X399 l399 y399 z399 st399 hQ399
          subst l399 y399 z399
          obtain ⟨rfl, Nq399, eq399⟩ := hQ399
          have N400 := Fr.app N394 Nq399
          have q402 := fun t (kt : Go p e below T399 (mkF m 206 #[vI p1, vI p2, vI p3, vI p4, vI p5, vI ((p1 &&& (2147483647 : Int32)) % (4 : Int32)), vR b_22, vR b_27, vR b_32, vR b37, vR b47, vR vv, vR ob, vR (own_stp cw p2)] []) t) => q398 t (st399 t (by
            show Go _ _ _ _ (mkF m 154 #[vI p1, vI p2, vI p3, vI p4, vI p5, vI ((p1 &&& (2147483647 : Int32)) % (4 : Int32)), vR b_22, vR b_27, vR b_32, vR b37, vR b47, vR vv, vR ob, vN] [(.ref (own_stp cw p2))]) _
            refine XS.astore X399.here hx rfl (hb hby at_154) rfl rfl (l' := #[vI p1, vI p2, vI p3, vI p4, vI p5, vI ((p1 &&& (2147483647 : Int32)) % (4 : Int32)), vR b_22, vR b_27, vR b_32, vR b37, vR b47, vR vv, vR ob, vR (own_stp cw p2)]) rfl ?_
            show Go _ _ _ _ (mkF m 156 #[vI p1, vI p2, vI p3, vI p4, vI p5, vI ((p1 &&& (2147483647 : Int32)) % (4 : Int32)), vR b_22, vR b_27, vR b_32, vR b37, vR b47, vR vv, vR ob, vR (own_stp cw p2)] []) _
            refine XS.goto X399.here hx rfl (pc0 := 156) (pc' := 206) rfl (hb hby at_156) (by decide) (by decide) ?_
            exact kt))
          have f401 : Fld Z h282 ob sk24 "value" sk3 (.ref (own_stp cw p2)) := by
            have z := mf282_1
            rw [show (own_find (cw 1) [((own_sts cw p2), (own_stp cw p2)), ((own_sts cw p3), (own_stp cw p3))]) = (.ref (own_stp cw p2)) from by simp [own_find, hc57, hc150, hc280, hc397]] at z
            exact z
          have q403 := fun t (kt : Go p e below T399 (mkF m 219 #[vI p1, vI p2, vI p3, vI p4, vI p5, vI ((p1 &&& (2147483647 : Int32)) % (4 : Int32)), vR b_22, vR b_27, vR b_32, vR b37, vR b47, vR vv, vR ob, vR (own_stp cw p2)] [(.ref ob)]) t) => q402 t (by
            show Go _ _ _ _ (mkF m 206 #[vI p1, vI p2, vI p3, vI p4, vI p5, vI ((p1 &&& (2147483647 : Int32)) % (4 : Int32)), vR b_22, vR b_27, vR b_32, vR b37, vR b47, vR vv, vR ob, vR (own_stp cw p2)] []) _
            refine XS.aload X399.here hx rfl (hb hby at_206) rfl rfl ?_
            show Go _ _ _ _ (mkF m 208 _ [(.ref (own_stp cw p2))]) _
            refine XS.ifnonnullYes X399.here hx rfl (pc0 := 208) (pc' := 217) rfl (hb hby at_208) rfl (by decide) (by decide) ?_
            show Go _ _ _ _ (mkF m 217 _ []) _
            refine XS.aload X399.here hx rfl (hb hby at_217) rfl rfl ?_
            exact kt)
          obtain ⟨cq405, kq405, q405a, q405b, q405c⟩ := isOf hZ eq399 mf282_0
          obtain ⟨_, _, ⟨T404, L404, k404, n404⟩, -, X404, ⟨_, hQ404, l404, y404, z404⟩, st404⟩ := X399.virtualBack hx (y := ym52) (z := ym52) hown (ow hZ hw 358 rfl) (ow hZ hw 359 rfl) (notFace_of_selects (args := #[]) (ow hZ hw 361 rfl)) (ow hZ hw 361 rfl) (ow hZ hw 360 rfl) (by decide) (backOf (W := 0) (rm48 l Z a0 hw [] cx ob (own_stp cw p2) h282 n0 O282 f401) hZ (ox hw 362 rfl) (ox hw 166 rfl) (by decide) (by decide)) q405a q405c (g := (mkF m 219 #[vI p1, vI p2, vI p3, vI p4, vI p5, vI ((p1 &&& (2147483647 : Int32)) % (4 : Int32)), vR b_22, vR b_27, vR b_32, vR b37, vR b47, vR vv, vR ob, vR (own_stp cw p2)] [(.ref ob)])) rfl (by rw [hml]; rfl) (Steps.refl _) (argsL := []) (rest := []) (lenOf pd_15 rfl) rfl own_le0 (hb hby at_219) (fun _ _ => ⟨rfl, eq399, (by decide : 30 + 0 ≤ _), (by decide : 145 + 0 ≤ _)⟩)
          dsimp only [Pt.U, Pt.locs, Pt.cells, Pt.slots] at X404 l404 y404 z404 st404 hQ404
          subst l404 y404 z404
          obtain ⟨rfl, Nq404, eq404⟩ := hQ404
          have N406 := Fr.app N400 Nq404
          have q407 := fun t (kt : Go p e below T404 (mkF m 227 #[vI p1, vI p2, vI p3, vI p4, vI p5, vI ((p1 &&& (2147483647 : Int32)) % (4 : Int32)), vR b_22, vR b_27, vR b_32, vR b37, vR b47, vR vv, vR ob, vR (own_stp cw p2)] [(.ref ob)]) t) => q403 t (st404.trans (by
            show Go _ _ _ _ (mkF m 222 #[vI p1, vI p2, vI p3, vI p4, vI p5, vI ((p1 &&& (2147483647 : Int32)) % (4 : Int32)), vR b_22, vR b_27, vR b_32, vR b37, vR b47, vR vv, vR ob, vR (own_stp cw p2)] [(.int 1)]) _
            refine XS.ifNo X404.here hx rfl (hb hby at_222) rfl ((if0 _ _).trans (feq (by decide : ¬ ((1 : Int32) = (0 : Int32)))).1) ?_
            show Go _ _ _ _ (mkF m 225 _ []) _
            refine XS.aload X404.here hx rfl (hb hby at_225) rfl rfl ?_
            exact kt))
          obtain ⟨cq409, kq409, q409a, q409b, q409c⟩ := isOf hZ eq404 mf282_0
          obtain ⟨_, _, ⟨T408, L408, k408, n408⟩, -, X408, ⟨_, hQ408, l408, y408, z408⟩, st408⟩ := X404.virtualBack hx (y := ym53) (z := ym53) hown (ow hZ hw 363 rfl) (ow hZ hw 364 rfl) (notFace_of_selects (args := #[]) (ow hZ hw 366 rfl)) (ow hZ hw 366 rfl) (ow hZ hw 365 rfl) (by decide) (backOf (W := 0) (rm49 l Z a0 hw [] cx ob (own_stp cw p2) h282 n0 O282 f401) hZ (ox hw 367 rfl) (ox hw 166 rfl) (by decide) (by decide)) q409a q409c (g := (mkF m 227 #[vI p1, vI p2, vI p3, vI p4, vI p5, vI ((p1 &&& (2147483647 : Int32)) % (4 : Int32)), vR b_22, vR b_27, vR b_32, vR b37, vR b47, vR vv, vR ob, vR (own_stp cw p2)] [(.ref ob)])) rfl (by rw [hml]; rfl) (Steps.refl _) (argsL := []) (rest := []) (lenOf pd_26 rfl) rfl own_le0 (hb hby at_227) (fun _ _ => ⟨rfl, eq404, (by decide : 30 + 0 ≤ _), (by decide : 145 + 0 ≤ _)⟩)
          dsimp only [Pt.U, Pt.locs, Pt.cells, Pt.slots] at X408 l408 y408 z408 st408 hQ408
          subst l408 y408 z408
          obtain ⟨rfl, Nq408, eq408⟩ := hQ408
          have N410 := Fr.app N406 Nq408
          have q411 := fun t (kt : Go p e below T408 (mkF m 240 #[vI p1, vI p2, vI p3, vI p4, vI p5, vI ((p1 &&& (2147483647 : Int32)) % (4 : Int32)), vR b_22, vR b_27, vR b_32, vR b37, vR b47, vR vv, vR ob, vR (own_stp cw p2)] [(.int 1)]) t) => q407 t (st408.trans (by
            show Go _ _ _ _ (mkF m 230 #[vI p1, vI p2, vI p3, vI p4, vI p5, vI ((p1 &&& (2147483647 : Int32)) % (4 : Int32)), vR b_22, vR b_27, vR b_32, vR b37, vR b47, vR vv, vR ob, vR (own_stp cw p2)] [(.ref (own_stp cw p2))]) _
            refine XS.aload X408.here hx rfl (hb hby at_230) rfl rfl ?_
            show Go _ _ _ _ (mkF m 232 _ [(.ref (own_stp cw p2)), (.ref (own_stp cw p2))]) _
            refine Jvm.RoadKit.acmp (g := (mkF m 232 #[vI p1, vI p2, vI p3, vI p4, vI p5, vI ((p1 &&& (2147483647 : Int32)) % (4 : Int32)), vR b_22, vR b_27, vR b_32, vR b37, vR b47, vR vv, vR ob, vR (own_stp cw p2)] [(.ref (own_stp cw p2)), (.ref (own_stp cw p2))])) X408 hx rfl rfl rfl (pc0 := 232) (pc' := 235) (same := true) rfl (hb hby at_232) rfl (decide_eq_true rfl) (by decide) (by decide) ?_
            show Go _ _ _ _ (mkF m 235 _ []) _
            refine XS.iconst X408.here hx rfl (hb hby at_235) ?_
            show Go _ _ _ _ (mkF m 236 _ [(.int 1)]) _
            refine XS.goto X408.here hx rfl (pc0 := 236) (pc' := 240) rfl (hb hby at_236) (by decide) (by decide) ?_
            exact kt))
          obtain ⟨fs, hr, hrun, hended, hRE⟩ := X408.leaveW hS32 (by rw [eq408]; exact hk282) (v := some (.int 1)) (fun h => by rw [Bd.returns] at h; cases h)
          refine ⟨_, _, q411 _ ?_, hrun, hended, _, _, rfl, ?_, hRE.1, hRE.2.1, hRE.2.2.1, hRE.2.2.2.mono (by decide) (by decide)⟩
          · show Go p e below T408 (mkF m 240 #[vI p1, vI p2, vI p3, vI p4, vI p5, vI ((p1 &&& (2147483647 : Int32)) % (4 : Int32)), vR b_22, vR b_27, vR b_32, vR b37, vR b47, vR vv, vR ob, vR (own_stp cw p2)] [(.int 1)]) _
            exact retN X408 hx (t := .boolean) Bd.returns (by simp) (hb hby at_240) hr
          · show Q_rm0 Z p1 p2 p3 p4 p5 cw z_cs h0 n0 _ T408.heap _
            rw [eq408]
            exact ⟨rfl, N410⟩
        · have q412 := fun t (kt : Go p e below T395 (mkF m 166 #[vI p1, vI p2, vI p3, vI p4, vI p5, vI ((p1 &&& (2147483647 : Int32)) % (4 : Int32)), vR b_22, vR b_27, vR b_32, vR b37, vR b47, vR vv, vR ob, vN] [(.int p3)]) t) => q396 t (by
            show Go _ _ _ _ (mkF m 147 #[vI p1, vI p2, vI p3, vI p4, vI p5, vI ((p1 &&& (2147483647 : Int32)) % (4 : Int32)), vR b_22, vR b_27, vR b_32, vR b37, vR b47, vR vv, vR ob, vN] [(.ref (cw 1)), (.ref (own_sts cw p2))]) _
            refine Jvm.RoadKit.acmp (g := (mkF m 147 #[vI p1, vI p2, vI p3, vI p4, vI p5, vI ((p1 &&& (2147483647 : Int32)) % (4 : Int32)), vR b_22, vR b_27, vR b_32, vR b37, vR b47, vR vv, vR ob, vN] [(.ref (cw 1)), (.ref (own_sts cw p2))])) X395 hx rfl rfl rfl (pc0 := 147) (pc' := 159) (same := false) rfl (hb hby at_147) rfl (decide_eq_false (fun q => hc397 (Value.ref.inj q))) (by decide) (by decide) ?_
            show Go _ _ _ _ (mkF m 159 _ []) _
            refine XS.iload X395.here hx rfl (hb hby at_159) rfl ?_
            show Go _ _ _ _ (mkF m 161 _ [(.int ((p1 &&& (2147483647 : Int32)) % (4 : Int32)))]) _
            refine XS.iconst X395.here hx rfl (hb hby at_161) ?_
            show Go _ _ _ _ (mkF m 162 _ [(.int 2), (.int ((p1 &&& (2147483647 : Int32)) % (4 : Int32)))]) _
            refine XS.icmpNo X395.here hx rfl (hb hby at_162) rfl (flt hc150).1 ?_
            show Go _ _ _ _ (mkF m 165 _ []) _
            refine XS.iloadN X395.here hx rfl (hb hby at_165) rfl ?_
            exact kt)
          obtain ⟨_, _, ⟨T413, L413, k413, n413⟩, -, X413, ⟨_, hQ413, l413, y413, z413⟩, st413⟩ := Jvm.LawKit.callS X395 hx (y := ym5) hown (ow hZ hw 5 rfl) (ow hZ hw 6 rfl) (ow hZ hw 3 rfl) (ow hZ hw 7 rfl) (by decide) (backOf (W := 0) (rm2 l Z a0 hw [] cx p3 h282 n0 O282 ) hZ (ox hw 7 rfl) (ox hw 3 rfl) (by decide) (by decide)) (g := (mkF m 166 #[vI p1, vI p2, vI p3, vI p4, vI p5, vI ((p1 &&& (2147483647 : Int32)) % (4 : Int32)), vR b_22, vR b_27, vR b_32, vR b37, vR b47, vR vv, vR ob, vN] [(.int p3)])) rfl (by rw [hml]; rfl) (argsL := [(.int p3)]) (rest := []) (lenOf pd_1 rfl) rfl own_le0 (hb hby at_166) (fun _ _ => ⟨rfl, e395, (by decide : 30 + 0 ≤ _), (by decide : 145 + 0 ≤ _)⟩)
          dsimp only [Pt.U, Pt.locs, Pt.cells, Pt.slots] at X413 l413 y413 z413 st413 hQ413
          subst l413 y413 z413
          obtain ⟨rfl, Nq413, eq413⟩ := hQ413
          have N414 := Fr.app N394 Nq413
          obtain ⟨T415, X415, e415, st415⟩ := getS2 X413 hx hZ hown (host := "") (Or.inl (ox hw 19 rfl)) Via.refl eq413 (cx.2.2.1.ext O282.2) (g := (mkF m 169 #[vI p1, vI p2, vI p3, vI p4, vI p5, vI ((p1 &&& (2147483647 : Int32)) % (4 : Int32)), vR b_22, vR b_27, vR b_32, vR b37, vR b47, vR vv, vR ob, vN] [(.ref (own_sts cw p3))])) rfl (hb hby at_169)
          have q416 := fun t (kt : Go p e below T415 (mkF m 172 #[vI p1, vI p2, vI p3, vI p4, vI p5, vI ((p1 &&& (2147483647 : Int32)) % (4 : Int32)), vR b_22, vR b_27, vR b_32, vR b37, vR b47, vR vv, vR ob, vN] [(.ref (cw 1)), (.ref (own_sts cw p3))]) t) => q412 t (st413 t (st415 t kt))
          by_cases hc417 : (own_sts cw p3) = (cw 1)
          · have q418 := fun t (kt : Go p e below T415 (mkF m 176 #[vI p1, vI p2, vI p3, vI p4, vI p5, vI ((p1 &&& (2147483647 : Int32)) % (4 : Int32)), vR b_22, vR b_27, vR b_32, vR b37, vR b47, vR vv, vR ob, vN] [(.int p3)]) t) => q416 t (by
              show Go _ _ _ _ (mkF m 172 #[vI p1, vI p2, vI p3, vI p4, vI p5, vI ((p1 &&& (2147483647 : Int32)) % (4 : Int32)), vR b_22, vR b_27, vR b_32, vR b37, vR b47, vR vv, vR ob, vN] [(.ref (cw 1)), (.ref (own_sts cw p3))]) _
              refine Jvm.RoadKit.acmp (g := (mkF m 172 #[vI p1, vI p2, vI p3, vI p4, vI p5, vI ((p1 &&& (2147483647 : Int32)) % (4 : Int32)), vR b_22, vR b_27, vR b_32, vR b37, vR b47, vR vv, vR ob, vN] [(.ref (cw 1)), (.ref (own_sts cw p3))])) X415 hx rfl rfl rfl (pc0 := 172) (pc' := 175) (same := true) rfl (hb hby at_172) rfl (decide_eq_true (congrArg Value.ref hc417)) (by decide) (by decide) ?_
              show Go _ _ _ _ (mkF m 175 _ []) _
              refine XS.iloadN X415.here hx rfl (hb hby at_175) rfl ?_
              exact kt)
            obtain ⟨_, _, ⟨T419, L419, k419, n419⟩, -, X419, ⟨_, hQ419, l419, y419, z419⟩, st419⟩ := Jvm.LawKit.callS X415 hx (y := ym6) hown (ow hZ hw 24 rfl) (ow hZ hw 25 rfl) (ow hZ hw 3 rfl) (ow hZ hw 26 rfl) (by decide) (backOf (W := 0) (rm3 l Z a0 hw [] cx p3 h282 n0 O282 ) hZ (ox hw 26 rfl) (ox hw 3 rfl) (by decide) (by decide)) (g := (mkF m 176 #[vI p1, vI p2, vI p3, vI p4, vI p5, vI ((p1 &&& (2147483647 : Int32)) % (4 : Int32)), vR b_22, vR b_27, vR b_32, vR b37, vR b47, vR vv, vR ob, vN] [(.int p3)])) rfl (by rw [hml]; rfl) (argsL := [(.int p3)]) (rest := []) (lenOf pd_2 rfl) rfl own_le0 (hb hby at_176) (fun _ _ => ⟨rfl, e415, (by decide : 30 + 0 ≤ _), (by decide : 145 + 0 ≤ _)⟩)
            dsimp only [Pt.U, Pt.locs, Pt.cells, Pt.slots] at X419 l419 y419 z419 st419 hQ419
            subst l419 y419 z419
            obtain ⟨rfl, Nq419, eq419⟩ := hQ419
            have N420 := Fr.app N414 Nq419
            have q422 := fun t (kt : Go p e below T419 (mkF m 206 #[vI p1, vI p2, vI p3, vI p4, vI p5, vI ((p1 &&& (2147483647 : Int32)) % (4 : Int32)), vR b_22, vR b_27, vR b_32, vR b37, vR b47, vR vv, vR ob, vR (own_stp cw p3)] []) t) => q418 t (st419 t (by
              show Go _ _ _ _ (mkF m 179 #[vI p1, vI p2, vI p3, vI p4, vI p5, vI ((p1 &&& (2147483647 : Int32)) % (4 : Int32)), vR b_22, vR b_27, vR b_32, vR b37, vR b47, vR vv, vR ob, vN] [(.ref (own_stp cw p3))]) _
              refine XS.astore X419.here hx rfl (hb hby at_179) rfl rfl (l' := #[vI p1, vI p2, vI p3, vI p4, vI p5, vI ((p1 &&& (2147483647 : Int32)) % (4 : Int32)), vR b_22, vR b_27, vR b_32, vR b37, vR b47, vR vv, vR ob, vR (own_stp cw p3)]) rfl ?_
              show Go _ _ _ _ (mkF m 181 #[vI p1, vI p2, vI p3, vI p4, vI p5, vI ((p1 &&& (2147483647 : Int32)) % (4 : Int32)), vR b_22, vR b_27, vR b_32, vR b37, vR b47, vR vv, vR ob, vR (own_stp cw p3)] []) _
              refine XS.goto X419.here hx rfl (pc0 := 181) (pc' := 206) rfl (hb hby at_181) (by decide) (by decide) ?_
              exact kt))
            have f421 : Fld Z h282 ob sk24 "value" sk3 (.ref (own_stp cw p3)) := by
              have z := mf282_1
              rw [show (own_find (cw 1) [((own_sts cw p2), (own_stp cw p2)), ((own_sts cw p3), (own_stp cw p3))]) = (.ref (own_stp cw p3)) from by simp [own_find, hc57, hc150, hc280, hc397, hc417]] at z
              exact z
            have q423 := fun t (kt : Go p e below T419 (mkF m 219 #[vI p1, vI p2, vI p3, vI p4, vI p5, vI ((p1 &&& (2147483647 : Int32)) % (4 : Int32)), vR b_22, vR b_27, vR b_32, vR b37, vR b47, vR vv, vR ob, vR (own_stp cw p3)] [(.ref ob)]) t) => q422 t (by
              show Go _ _ _ _ (mkF m 206 #[vI p1, vI p2, vI p3, vI p4, vI p5, vI ((p1 &&& (2147483647 : Int32)) % (4 : Int32)), vR b_22, vR b_27, vR b_32, vR b37, vR b47, vR vv, vR ob, vR (own_stp cw p3)] []) _
              refine XS.aload X419.here hx rfl (hb hby at_206) rfl rfl ?_
              show Go _ _ _ _ (mkF m 208 _ [(.ref (own_stp cw p3))]) _
              refine XS.ifnonnullYes X419.here hx rfl (pc0 := 208) (pc' := 217) rfl (hb hby at_208) rfl (by decide) (by decide) ?_
              show Go _ _ _ _ (mkF m 217 _ []) _
              refine XS.aload X419.here hx rfl (hb hby at_217) rfl rfl ?_
              exact kt)
            obtain ⟨cq425, kq425, q425a, q425b, q425c⟩ := isOf hZ eq419 mf282_0
            obtain ⟨_, _, ⟨T424, L424, k424, n424⟩, -, X424, ⟨_, hQ424, l424, y424, z424⟩, st424⟩ := X419.virtualBack hx (y := ym52) (z := ym52) hown (ow hZ hw 358 rfl) (ow hZ hw 359 rfl) (notFace_of_selects (args := #[]) (ow hZ hw 361 rfl)) (ow hZ hw 361 rfl) (ow hZ hw 360 rfl) (by decide) (backOf (W := 0) (rm48 l Z a0 hw [] cx ob (own_stp cw p3) h282 n0 O282 f421) hZ (ox hw 362 rfl) (ox hw 166 rfl) (by decide) (by decide)) q425a q425c (g := (mkF m 219 #[vI p1, vI p2, vI p3, vI p4, vI p5, vI ((p1 &&& (2147483647 : Int32)) % (4 : Int32)), vR b_22, vR b_27, vR b_32, vR b37, vR b47, vR vv, vR ob, vR (own_stp cw p3)] [(.ref ob)])) rfl (by rw [hml]; rfl) (Steps.refl _) (argsL := []) (rest := []) (lenOf pd_15 rfl) rfl own_le0 (hb hby at_219) (fun _ _ => ⟨rfl, eq419, (by decide : 30 + 0 ≤ _), (by decide : 145 + 0 ≤ _)⟩)
            dsimp only [Pt.U, Pt.locs, Pt.cells, Pt.slots] at X424 l424 y424 z424 st424 hQ424
            subst l424 y424 z424
            obtain ⟨rfl, Nq424, eq424⟩ := hQ424
            have N426 := Fr.app N420 Nq424
            have q427 := fun t (kt : Go p e below T424 (mkF m 227 #[vI p1, vI p2, vI p3, vI p4, vI p5, vI ((p1 &&& (2147483647 : Int32)) % (4 : Int32)), vR b_22, vR b_27, vR b_32, vR b37, vR b47, vR vv, vR ob, vR (own_stp cw p3)] [(.ref ob)]) t) => q423 t (st424.trans (by
              show Go _ _ _ _ (mkF m 222 #[vI p1, vI p2, vI p3, vI p4, vI p5, vI ((p1 &&& (2147483647 : Int32)) % (4 : Int32)), vR b_22, vR b_27, vR b_32, vR b37, vR b47, vR vv, vR ob, vR (own_stp cw p3)] [(.int 1)]) _
              refine XS.ifNo X424.here hx rfl (hb hby at_222) rfl ((if0 _ _).trans (feq (by decide : ¬ ((1 : Int32) = (0 : Int32)))).1) ?_
              show Go _ _ _ _ (mkF m 225 _ []) _
              refine XS.aload X424.here hx rfl (hb hby at_225) rfl rfl ?_
              exact kt))
            obtain ⟨cq429, kq429, q429a, q429b, q429c⟩ := isOf hZ eq424 mf282_0
            obtain ⟨_, _, ⟨T428, L428, k428, n428⟩, -, X428, ⟨_, hQ428, l428, y428, z428⟩, st428⟩ := X424.virtualBack hx (y := ym53) (z := ym53) hown (ow hZ hw 363 rfl) (ow hZ hw 364 rfl) (notFace_of_selects (args := #[]) (ow hZ hw 366 rfl)) (ow hZ hw 366 rfl) (ow hZ hw 365 rfl) (by decide) (backOf (W := 0) (rm49 l Z a0 hw [] cx ob (own_stp cw p3) h282 n0 O282 f421) hZ (ox hw 367 rfl) (ox hw 166 rfl) (by decide) (by decide)) q429a q429c (g := (mkF m 227 #[vI p1, vI p2, vI p3, vI p4, vI p5, vI ((p1 &&& (2147483647 : Int32)) % (4 : Int32)), vR b_22, vR b_27, vR b_32, vR b37, vR b47, vR vv, vR ob, vR (own_stp cw p3)] [(.ref ob)])) rfl (by rw [hml]; rfl) (Steps.refl _) (argsL := []) (rest := []) (lenOf pd_26 rfl) rfl own_le0 (hb hby at_227) (fun _ _ => ⟨rfl, eq424, (by decide : 30 + 0 ≤ _), (by decide : 145 + 0 ≤ _)⟩)
            dsimp only [Pt.U, Pt.locs, Pt.cells, Pt.slots] at X428 l428 y428 z428 st428 hQ428
            subst l428 y428 z428
            obtain ⟨rfl, Nq428, eq428⟩ := hQ428
            have N430 := Fr.app N426 Nq428
            have q431 := fun t (kt : Go p e below T428 (mkF m 240 #[vI p1, vI p2, vI p3, vI p4, vI p5, vI ((p1 &&& (2147483647 : Int32)) % (4 : Int32)), vR b_22, vR b_27, vR b_32, vR b37, vR b47, vR vv, vR ob, vR (own_stp cw p3)] [(.int 1)]) t) => q427 t (st428.trans (by
              show Go _ _ _ _ (mkF m 230 #[vI p1, vI p2, vI p3, vI p4, vI p5, vI ((p1 &&& (2147483647 : Int32)) % (4 : Int32)), vR b_22, vR b_27, vR b_32, vR b37, vR b47, vR vv, vR ob, vR (own_stp cw p3)] [(.ref (own_stp cw p3))]) _
              refine XS.aload X428.here hx rfl (hb hby at_230) rfl rfl ?_
              show Go _ _ _ _ (mkF m 232 _ [(.ref (own_stp cw p3)), (.ref (own_stp cw p3))]) _
              refine Jvm.RoadKit.acmp (g := (mkF m 232 #[vI p1, vI p2, vI p3, vI p4, vI p5, vI ((p1 &&& (2147483647 : Int32)) % (4 : Int32)), vR b_22, vR b_27, vR b_32, vR b37, vR b47, vR vv, vR ob, vR (own_stp cw p3)] [(.ref (own_stp cw p3)), (.ref (own_stp cw p3))])) X428 hx rfl rfl rfl (pc0 := 232) (pc' := 235) (same := true) rfl (hb hby at_232) rfl (decide_eq_true rfl) (by decide) (by decide) ?_
              show Go _ _ _ _ (mkF m 235 _ []) _
              refine XS.iconst X428.here hx rfl (hb hby at_235) ?_
              show Go _ _ _ _ (mkF m 236 _ [(.int 1)]) _
              refine XS.goto X428.here hx rfl (pc0 := 236) (pc' := 240) rfl (hb hby at_236) (by decide) (by decide) ?_
              exact kt))
            obtain ⟨fs, hr, hrun, hended, hRE⟩ := X428.leaveW hS32 (by rw [eq428]; exact hk282) (v := some (.int 1)) (fun h => by rw [Bd.returns] at h; cases h)
            refine ⟨_, _, q431 _ ?_, hrun, hended, _, _, rfl, ?_, hRE.1, hRE.2.1, hRE.2.2.1, hRE.2.2.2.mono (by decide) (by decide)⟩
            · show Go p e below T428 (mkF m 240 #[vI p1, vI p2, vI p3, vI p4, vI p5, vI ((p1 &&& (2147483647 : Int32)) % (4 : Int32)), vR b_22, vR b_27, vR b_32, vR b37, vR b47, vR vv, vR ob, vR (own_stp cw p3)] [(.int 1)]) _
              exact retN X428 hx (t := .boolean) Bd.returns (by simp) (hb hby at_240) hr
            · show Q_rm0 Z p1 p2 p3 p4 p5 cw z_cs h0 n0 _ T428.heap _
              rw [eq428]
              exact ⟨rfl, N430⟩
          · have q433 := fun t (kt : Go p e below T415 (mkF m 206 #[vI p1, vI p2, vI p3, vI p4, vI p5, vI ((p1 &&& (2147483647 : Int32)) % (4 : Int32)), vR b_22, vR b_27, vR b_32, vR b37, vR b47, vR vv, vR ob, vN] []) t) => q416 t (by
              show Go _ _ _ _ (mkF m 172 #[vI p1, vI p2, vI p3, vI p4, vI p5, vI ((p1 &&& (2147483647 : Int32)) % (4 : Int32)), vR b_22, vR b_27, vR b_32, vR b37, vR b47, vR vv, vR ob, vN] [(.ref (cw 1)), (.ref (own_sts cw p3))]) _
              refine Jvm.RoadKit.acmp (g := (mkF m 172 #[vI p1, vI p2, vI p3, vI p4, vI p5, vI ((p1 &&& (2147483647 : Int32)) % (4 : Int32)), vR b_22, vR b_27, vR b_32, vR b37, vR b47, vR vv, vR ob, vN] [(.ref (cw 1)), (.ref (own_sts cw p3))])) X415 hx rfl rfl rfl (pc0 := 172) (pc' := 184) (same := false) rfl (hb hby at_172) rfl (decide_eq_false (fun q => hc417 (Value.ref.inj q))) (by decide) (by decide) ?_
              show Go _ _ _ _ (mkF m 184 _ []) _
              refine XS.iload X415.here hx rfl (hb hby at_184) rfl ?_
              show Go _ _ _ _ (mkF m 186 _ [(.int ((p1 &&& (2147483647 : Int32)) % (4 : Int32)))]) _
              refine XS.iconst X415.here hx rfl (hb hby at_186) ?_
              show Go _ _ _ _ (mkF m 187 _ [(.int 3), (.int ((p1 &&& (2147483647 : Int32)) % (4 : Int32)))]) _
              refine XS.icmpYes X415.here hx rfl (pc0 := 187) (pc' := 206) rfl (hb hby at_187) rfl (tlt hc280).1 (by decide) (by decide) ?_
              exact kt)
            have f432 : Fld Z h282 ob sk24 "value" sk3 .null := by
              have z := mf282_1
              rw [show (own_find (cw 1) [((own_sts cw p2), (own_stp cw p2)), ((own_sts cw p3), (own_stp cw p3))]) = .null from by simp [own_find, hc57, hc150, hc280, hc397, hc417]] at z
              exact z
            have q434 := fun t (kt : Go p e below T415 (mkF m 213 #[vI p1, vI p2, vI p3, vI p4, vI p5, vI ((p1 &&& (2147483647 : Int32)) % (4 : Int32)), vR b_22, vR b_27, vR b_32, vR b37, vR b47, vR vv, vR ob, vN] [(.ref ob)]) t) => q433 t (by
              show Go _ _ _ _ (mkF m 206 #[vI p1, vI p2, vI p3, vI p4, vI p5, vI ((p1 &&& (2147483647 : Int32)) % (4 : Int32)), vR b_22, vR b_27, vR b_32, vR b37, vR b47, vR vv, vR ob, vN] []) _
              refine XS.aload X415.here hx rfl (hb hby at_206) rfl rfl ?_
              show Go _ _ _ _ (mkF m 208 _ [.null]) _
              refine XS.ifnonnullNo X415.here hx rfl (hb hby at_208) rfl ?_
              show Go _ _ _ _ (mkF m 211 _ []) _
              refine XS.aload X415.here hx rfl (hb hby at_211) rfl rfl ?_
              exact kt)
            obtain ⟨cq436, kq436, q436a, q436b, q436c⟩ := isOf hZ e415 mf282_0
            obtain ⟨_, _, ⟨T435, L435, k435, n435⟩, -, X435, ⟨_, hQ435, l435, y435, z435⟩, st435⟩ := X415.virtualBack hx (y := ym51) (z := ym51) hown (ow hZ hw 169 rfl) (ow hZ hw 170 rfl) (notFace_of_selects (args := #[]) (ow hZ hw 172 rfl)) (ow hZ hw 172 rfl) (ow hZ hw 171 rfl) (by decide) (backOf (W := 0) (rm21 l Z a0 hw [] cx ob h282 n0 O282 f432) hZ (ox hw 173 rfl) (ox hw 166 rfl) (by decide) (by decide)) q436a q436c (g := (mkF m 213 #[vI p1, vI p2, vI p3, vI p4, vI p5, vI ((p1 &&& (2147483647 : Int32)) % (4 : Int32)), vR b_22, vR b_27, vR b_32, vR b37, vR b47, vR vv, vR ob, vN] [(.ref ob)])) rfl (by rw [hml]; rfl) (Steps.refl _) (argsL := []) (rest := []) (lenOf pd_15 rfl) rfl own_le0 (hb hby at_213) (fun _ _ => ⟨rfl, e415, (by decide : 30 + 0 ≤ _), (by decide : 145 + 0 ≤ _)⟩)
            dsimp only [Pt.U, Pt.locs, Pt.cells, Pt.slots] at X435 l435 y435 z435 st435 hQ435
            subst l435 y435 z435
            obtain ⟨rfl, Nq435, eq435⟩ := hQ435
            have N437 := Fr.app N414 Nq435
            have q438 := fun t (kt : Go p e below T435 (mkF m 216 #[vI p1, vI p2, vI p3, vI p4, vI p5, vI ((p1 &&& (2147483647 : Int32)) % (4 : Int32)), vR b_22, vR b_27, vR b_32, vR b37, vR b47, vR vv, vR ob, vN] [(.int 1)]) t) => q434 t (st435.trans kt)
            obtain ⟨fs, hr, hrun, hended, hRE⟩ := X435.leaveW hS32 (by rw [eq435]; exact hk282) (v := some (.int 1)) (fun h => by rw [Bd.returns] at h; cases h)
            refine ⟨_, _, q438 _ ?_, hrun, hended, _, _, rfl, ?_, hRE.1, hRE.2.1, hRE.2.2.1, hRE.2.2.2.mono (by decide) (by decide)⟩
            · show Go p e below T435 (mkF m 216 #[vI p1, vI p2, vI p3, vI p4, vI p5, vI ((p1 &&& (2147483647 : Int32)) % (4 : Int32)), vR b_22, vR b_27, vR b_32, vR b37, vR b47, vR vv, vR ob, vN] [(.int 1)]) _
              exact retN X435 hx (t := .boolean) Bd.returns (by simp) (hb hby at_216) hr
            · show Q_rm0 Z p1 p2 p3 p4 p5 cw z_cs h0 n0 _ T435.heap _
              rw [eq435]
              exact ⟨rfl, N437⟩
      · have f439 := (f270.keep Kq274)
        have f440 := ((((((fq32_0.ext E37).keep Kq42).ext E47).keep Kq52).keep Kq143).keep Kq274)
        have q441 := fun t (kt : Go p e below T274 (mkF m 82 #[vI p1, vI p2, vI p3, vI p4, vI p5, vI ((p1 &&& (2147483647 : Int32)) % (4 : Int32)), vR b_22, vR b_27, vR b_32, vR b37, vR b47, vU, vU, vU] [(.ref b_32), (.ref b37)]) t) => q279 t (by
          show Go _ _ _ _ (mkF m 75 #[vI p1, vI p2, vI p3, vI p4, vI p5, vI ((p1 &&& (2147483647 : Int32)) % (4 : Int32)), vR b_22, vR b_27, vR b_32, vR b37, vR b47, vU, vU, vU] [(.int 3), (.int ((p1 &&& (2147483647 : Int32)) % (4 : Int32)))]) _
          refine XS.icmpNo X274.here hx rfl (hb hby at_75) rfl (flt hc280).1 ?_
          show Go _ _ _ _ (mkF m 78 _ []) _
          refine XS.aload X274.here hx rfl (hb hby at_78) rfl rfl ?_
          show Go _ _ _ _ (mkF m 80 _ [(.ref b37)]) _
          refine XS.aload X274.here hx rfl (hb hby at_80) rfl rfl ?_
          exact kt)
        obtain ⟨cq443, kq443, q443a, q443b, q443c⟩ := isOf hZ rfl f439
        obtain ⟨_, _, ⟨T442, L442, k442, n442⟩, -, X442, ⟨_, hQ442, l442, y442, z442⟩, st442⟩ := X274.virtualBack hx (y := ym12) (z := ym12) hown (ow hZ hw 184 rfl) (ow hZ hw 185 rfl) (notFace_of_selects (args := #[]) (ow hZ hw 187 rfl)) (ow hZ hw 187 rfl) (ow hZ hw 186 rfl) (by decide) (backOf (W := 0) (rm22_2 l Z a0 hw [] cx b37 b_32 b_143 b_22 b_27 kb_143 (z'_274) T274.heap n0 O277 f439 f440 fq274_0 fq274_1 fq274_2 fq274_3 gg38 gg146 pq274_0 ne272) hZ (ox hw 188 rfl) (ox hw 53 rfl) (by decide) (by decide)) q443a q443c (g := (mkF m 82 #[vI p1, vI p2, vI p3, vI p4, vI p5, vI ((p1 &&& (2147483647 : Int32)) % (4 : Int32)), vR b_22, vR b_27, vR b_32, vR b37, vR b47, vU, vU, vU] [(.ref b_32), (.ref b37)])) rfl (by rw [hml]; rfl) (Steps.refl _) (argsL := [(.ref b_32)]) (rest := []) (lenOf pd_33 rfl) rfl own_le0 (hb hby at_82) (fun _ _ => ⟨rfl, rfl, (by decide : 18 + 0 ≤ _), (by decide : 85 + 0 ≤ _)⟩)
        dsimp only [Pt.U, Pt.locs, Pt.cells, Pt.slots] at X442 l442 y442 z442 st442 hQ442
        subst l442 y442 z442
        obtain ⟨z'_442, rfl, Nq442, Kq442, fq442_0, fq442_1, fq442_2, fq442_3, pq442_0⟩ := hQ442
        have N444 := Fr.app N276 Nq442
        have O445 := O277.keep Kq442 (allS gg38 (allS gg146 all0))
        have hk446 : _ ≤ T442.heap.size := Nat.le_trans hk278 Kq442.1
        have q447 := fun t (kt : Go p e below T442 (mkF m 86 #[vI p1, vI p2, vI p3, vI p4, vI p5, vI ((p1 &&& (2147483647 : Int32)) % (4 : Int32)), vR b_22, vR b_27, vR b_32, vR b37, vR b47, vU, vU, vU] []) t) => q441 t (st442.trans (by
          show Go _ _ _ _ (mkF m 85 #[vI p1, vI p2, vI p3, vI p4, vI p5, vI ((p1 &&& (2147483647 : Int32)) % (4 : Int32)), vR b_22, vR b_27, vR b_32, vR b37, vR b47, vU, vU, vU] [(.int 1)]) _
          refine XS.pop X442.here hx rfl (hb hby at_85) rfl rfl ?_
          exact kt))
        obtain ⟨T448, h448, lo448, vv, ob, X448, e448, O448, N448, sk448, mf448_0, mf448_1, q448⟩ : ∃ (T448 : State) (h448 : Heap) (lo448 : List Loc) (vv : Addr) (ob : Addr), Stand p l e room_1 (s.setVm T32.vm) m #[(.int p1), (.int p2), (.int p3), (.int p4), (.int p5)] below meth c T448 lo448 30 145 ∧ T448.heap = h448 ∧ Old Z n0 h448 ∧ Fr n0 lo448 ∧ T442.heap.size ≤ h448.size ∧ Exa Z h448 ob sk24 ∧ Fld Z h448 ob sk24 "value" sk3 (own_find (cw 1) [((own_sts cw p2), (own_stp cw p2)), ((own_sts cw p3), (own_stp cw p3)), ((own_sts cw p4), (own_stp cw p4))]) ∧ ∀ t, Go p e below T448 (mkF m 131 #[vI p1, vI p2, vI p3, vI p4, vI p5, vI ((p1 &&& (2147483647 : Int32)) % (4 : Int32)), vR b_22, vR b_27, vR b_32, vR b37, vR b47, vR vv, vR ob, vU] []) t → Go p e below s₁ (entryFrame m #[(.int p1), (.int p2), (.int p3), (.int p4), (.int p5)] maxLocals) t := by
          skip
          have q449 := fun t (kt : Go p e below T442 (mkF m 90 #[vI p1, vI p2, vI p3, vI p4, vI p5, vI ((p1 &&& (2147483647 : Int32)) % (4 : Int32)), vR b_22, vR b_27, vR b_32, vR b37, vR b47, vU, vU, vU] [(.int (p5 &&& (1 : Int32)))]) t) => q447 t (by
            show Go _ _ _ _ (mkF m 86 #[vI p1, vI p2, vI p3, vI p4, vI p5, vI ((p1 &&& (2147483647 : Int32)) % (4 : Int32)), vR b_22, vR b_27, vR b_32, vR b37, vR b47, vU, vU, vU] []) _
            refine XS.iload X442.here hx rfl (hb hby at_86) rfl ?_
            show Go _ _ _ _ (mkF m 88 _ [(.int p5)]) _
            refine XS.iconst X442.here hx rfl (hb hby at_88) ?_
            show Go _ _ _ _ (mkF m 89 _ [(.int 1), (.int p5)]) _
            refine XS.iand X442.here hx rfl (hb hby at_89) rfl ?_
            exact kt)
          by_cases hc450 : (p5 &&& (1 : Int32)) = (0 : Int32)
          · have q451 := fun t (kt : Go p e below T442 (mkF m 111 #[vI p1, vI p2, vI p3, vI p4, vI p5, vI ((p1 &&& (2147483647 : Int32)) % (4 : Int32)), vR b_22, vR b_27, vR b_32, vR b37, vR b47, vU, vU, vU] []) t) => q449 t (by
              show Go _ _ _ _ (mkF m 90 #[vI p1, vI p2, vI p3, vI p4, vI p5, vI ((p1 &&& (2147483647 : Int32)) % (4 : Int32)), vR b_22, vR b_27, vR b_32, vR b37, vR b47, vU, vU, vU] [(.int (p5 &&& (1 : Int32)))]) _
              refine XS.ifYes X442.here hx rfl (pc0 := 90) (pc' := 111) rfl (hb hby at_90) rfl ((if0 _ _).trans (teq hc450).1) (by decide) (by decide) ?_
              exact kt)
            obtain ⟨T452, h452, X452, e452, E452, A452, D452, U452, st452⟩ := newO X442 hx hZ hown (ox hw 75 rfl) (ox hw 76 rfl) (ox hw 77 rfl) rfl (g := (mkF m 111 #[vI p1, vI p2, vI p3, vI p4, vI p5, vI ((p1 &&& (2147483647 : Int32)) % (4 : Int32)), vR b_22, vR b_27, vR b_32, vR b37, vR b47, vU, vU, vU] [])) rfl (hb hby at_111) (by decide) (by decide)
            obtain ⟨b452, g452⟩ : ∃ z, z = T442.heap.size := ⟨_, rfl⟩
            rw [← g452] at A452 D452 st452
            have gg453 : n0 ≤ b452 := Nat.le_trans (O445.1 ▸ O445.2.1) (Nat.le_of_eq g452.symm)
            have O454 := O445.ext E452
            have hk455 : _ ≤ h452.size := Nat.le_trans hk446 E452.1
            have F452_outcomes : Fld Z h452 b452 sk8 "outcomes" sk5 .null := D452 (Or.inr (ox hw 112 rfl)) (ty := (.object sk23)) (by decide)
            have F452_notes : Fld Z h452 b452 sk8 "notes" sk5 .null := D452 (Or.inr (ox hw 114 rfl)) (ty := (.object sk23)) (by decide)
            have f456 := ((f439.keep Kq442).ext E452)
            have f457 := (fq442_2.ext E452)
            have f458 := (fq442_1.ext E452)
            have f459 := (fq442_3.ext E452)
            have f460 := (((fq143_4.keep Kq274).keep Kq442).ext E452)
            have f461 := ((((f137.keep Kq143).keep Kq274).keep Kq442).ext E452)
            have f462 := (((f271.keep Kq274).keep Kq442).ext E452)
            have f463 := ((f440.keep Kq442).ext E452)
            have f464 := (((((A47.keep Kq52).keep Kq143).keep Kq274).keep Kq442).ext E452)
            have ne465 : b47 ≠ b_143 := (Nat.ne_of_lt (Nat.lt_of_lt_of_le (A47.keep Kq52).lt fr143_0))
            have f466 := ((((fq52_2.keep Kq143 (ninS (Ne.symm ne138) nin0)).keep Kq274 (ninS (Ne.symm ne138) (ninS ne465 nin0))).keep Kq442 (ninS (Ne.symm ne138) (ninS ne465 nin0))).ext E452)
            have q467 := fun t (kt : Go p e below T452 (mkF m 119 #[vI p1, vI p2, vI p3, vI p4, vI p5, vI ((p1 &&& (2147483647 : Int32)) % (4 : Int32)), vR b_22, vR b_27, vR b_32, vR b37, vR b47, vU, vU, vU] [(.ref b47), (.ref b37), (.ref b452), (.ref b452)]) t) => q451 t (st452 t (by
              show Go _ _ _ _ (mkF m 114 #[vI p1, vI p2, vI p3, vI p4, vI p5, vI ((p1 &&& (2147483647 : Int32)) % (4 : Int32)), vR b_22, vR b_27, vR b_32, vR b37, vR b47, vU, vU, vU] [(.ref b452)]) _
              refine XS.dup X452.here hx rfl (hb hby at_114) rfl rfl ?_
              show Go _ _ _ _ (mkF m 115 _ [(.ref b452), (.ref b452)]) _
              refine XS.aload X452.here hx rfl (hb hby at_115) rfl rfl ?_
              show Go _ _ _ _ (mkF m 117 _ [(.ref b37), (.ref b452), (.ref b452)]) _
              refine XS.aload X452.here hx rfl (hb hby at_117) rfl rfl ?_
              exact kt))
            obtain ⟨_, _, ⟨T468, L468, k468, n468⟩, -, X468, ⟨_, hQ468, l468, y468, z468⟩, st468⟩ := X452.specialBack hx (y := ym35) rfl hown (ow hZ hw 78 rfl) (ow hZ hw 79 rfl) (ow hZ hw 80 rfl) (by decide) (backOf (W := 1) (rm10_30 l Z a0 hw [] cx b452 b37 b47 b_143 b_22 b_27 b_32 kb_143 h452 n0 O454 A452 F452_outcomes F452_notes f456 f457 f458 f459 f460 f461 f462 f463 f464 f466 gg453) hZ (ox hw 80 rfl) (ox hw 77 rfl) (by decide) (by decide)) (g := (mkF m 119 #[vI p1, vI p2, vI p3, vI p4, vI p5, vI ((p1 &&& (2147483647 : Int32)) % (4 : Int32)), vR b_22, vR b_27, vR b_32, vR b37, vR b47, vU, vU, vU] [(.ref b47), (.ref b37), (.ref b452), (.ref b452)])) rfl (by rw [hml]; rfl) (Steps.refl _) (a := b452) (argsL := [(.ref b37), (.ref b47)]) (rest := [(.ref b452)]) (lenOf pd_31 rfl) rfl own_le0 (hb hby at_119) (fun _ _ => ⟨rfl, e452, (by decide : 19 + 3 ≤ _), (by decide : 87 + 8 ≤ _)⟩)
            dsimp only [Pt.U, Pt.locs, Pt.cells, Pt.slots] at X468 l468 y468 z468 st468 hQ468
            subst l468 y468 z468
            obtain ⟨r_468, ra_468, kr_468, rfl, Nq468, Kq468, fr468_0, fr468_1, fq468_0, fq468_1, fq468_2, fq468_3⟩ := hQ468
            have N469 := Fr.app N444 Nq468
            have gg470 : n0 ≤ r_468 := Nat.le_trans (O454.1 ▸ O454.2.1) fr468_0
            have gg471 : n0 ≤ ra_468 := Nat.le_trans (O454.1 ▸ O454.2.1) fr468_1
            have O472 := O454.keep Kq468 (allS gg453 all0)
            have hk473 : _ ≤ T468.heap.size := Nat.le_trans hk455 Kq468.1
            have f474 := (f461.keep Kq468)
            have ne475 : b_22 ≠ b37 := (Nat.ne_of_lt (Nat.lt_of_lt_of_le ((fq22_0.keep Kq27).keep Kq32).lt (Nat.le_of_eq g37.symm)))
            have ne476 : b_22 ≠ b47 := (Nat.ne_of_lt (Nat.lt_of_lt_of_le ((((fq22_0.keep Kq27).keep Kq32).ext E37).keep Kq42).lt (Nat.le_of_eq g47.symm)))
            have ne477 : b_22 ≠ b_143 := (Nat.ne_of_lt (Nat.lt_of_lt_of_le f137.lt fr143_0))
            have ne478 : b_22 ≠ b452 := (Nat.ne_of_lt (Nat.lt_of_lt_of_le (((f137.keep Kq143).keep Kq274).keep Kq442).lt (Nat.le_of_eq g452.symm)))
            have f479 := (((((((((((fq22_1.keep Kq27 nin0).keep Kq32 nin0).ext E37).keep Kq42 (ninS ne475 nin0)).ext E47).keep Kq52 (ninS ne476 nin0)).keep Kq143 (ninS ne475 nin0)).keep Kq274 (ninS ne475 (ninS ne477 nin0))).keep Kq442 (ninS ne475 (ninS ne477 nin0))).ext E452).keep Kq468 (ninS ne478 nin0))
            have f480 := (((((((((((fq22_2.keep Kq27 nin0).keep Kq32 nin0).ext E37).keep Kq42 (ninS ne475 nin0)).ext E47).keep Kq52 (ninS ne476 nin0)).keep Kq143 (ninS ne475 nin0)).keep Kq274 (ninS ne475 (ninS ne477 nin0))).keep Kq442 (ninS ne475 (ninS ne477 nin0))).ext E452).keep Kq468 (ninS ne478 nin0))
            have f481 := (f462.keep Kq468)
            have ne482 : b_27 ≠ b37 := (Nat.ne_of_lt (Nat.lt_of_lt_of_le (fq27_0.keep Kq32).lt (Nat.le_of_eq g37.symm)))
            have ne483 : b_27 ≠ b47 := (Nat.ne_of_lt (Nat.lt_of_lt_of_le (((fq27_0.keep Kq32).ext E37).keep Kq42).lt (Nat.le_of_eq g47.symm)))
            have ne484 : b_27 ≠ b_143 := (Nat.ne_of_lt (Nat.lt_of_lt_of_le (((((fq27_0.keep Kq32).ext E37).keep Kq42).ext E47).keep Kq52).lt fr143_0))
            have ne485 : b_27 ≠ b452 := (Nat.ne_of_lt (Nat.lt_of_lt_of_le ((f271.keep Kq274).keep Kq442).lt (Nat.le_of_eq g452.symm)))
            have f486 := ((((((((((fq27_1.keep Kq32 nin0).ext E37).keep Kq42 (ninS ne482 nin0)).ext E47).keep Kq52 (ninS ne483 nin0)).keep Kq143 (ninS ne482 nin0)).keep Kq274 (ninS ne482 (ninS ne484 nin0))).keep Kq442 (ninS ne482 (ninS ne484 nin0))).ext E452).keep Kq468 (ninS ne485 nin0))
            have f487 := ((((((((((fq27_2.keep Kq32 nin0).ext E37).keep Kq42 (ninS ne482 nin0)).ext E47).keep Kq52 (ninS ne483 nin0)).keep Kq143 (ninS ne482 nin0)).keep Kq274 (ninS ne482 (ninS ne484 nin0))).keep Kq442 (ninS ne482 (ninS ne484 nin0))).ext E452).keep Kq468 (ninS ne485 nin0))
            have f488 := (f463.keep Kq468)
            have ne489 : b_32 ≠ b37 := (Nat.ne_of_lt (Nat.lt_of_lt_of_le fq32_0.lt (Nat.le_of_eq g37.symm)))
            have ne490 : b_32 ≠ b47 := (Nat.ne_of_lt (Nat.lt_of_lt_of_le ((fq32_0.ext E37).keep Kq42).lt (Nat.le_of_eq g47.symm)))
            have ne491 : b_32 ≠ b_143 := (Nat.ne_of_lt (Nat.lt_of_lt_of_le ((((fq32_0.ext E37).keep Kq42).ext E47).keep Kq52).lt fr143_0))
            have ne492 : b_32 ≠ b452 := (Nat.ne_of_lt (Nat.lt_of_lt_of_le (f440.keep Kq442).lt (Nat.le_of_eq g452.symm)))
            have f493 := (((((((((fq32_1.ext E37).keep Kq42 (ninS ne489 nin0)).ext E47).keep Kq52 (ninS ne490 nin0)).keep Kq143 (ninS ne489 nin0)).keep Kq274 (ninS ne489 (ninS ne491 nin0))).keep Kq442 (ninS ne489 (ninS ne491 nin0))).ext E452).keep Kq468 (ninS ne492 nin0))
            have f494 := (((((((((fq32_2.ext E37).keep Kq42 (ninS ne489 nin0)).ext E47).keep Kq52 (ninS ne490 nin0)).keep Kq143 (ninS ne489 nin0)).keep Kq274 (ninS ne489 (ninS ne491 nin0))).keep Kq442 (ninS ne489 (ninS ne491 nin0))).ext E452).keep Kq468 (ninS ne492 nin0))
            have q495 := fun t (kt : Go p e below T468 (mkF m 126 #[vI p1, vI p2, vI p3, vI p4, vI p5, vI ((p1 &&& (2147483647 : Int32)) % (4 : Int32)), vR b_22, vR b_27, vR b_32, vR b37, vR b47, vR b452, vU, vU] [(.ref b452)]) t) => q467 t (st468.trans (by
              show Go _ _ _ _ (mkF m 122 #[vI p1, vI p2, vI p3, vI p4, vI p5, vI ((p1 &&& (2147483647 : Int32)) % (4 : Int32)), vR b_22, vR b_27, vR b_32, vR b37, vR b47, vU, vU, vU] [(.ref b452)]) _
              refine XS.astore X468.here hx rfl (hb hby at_122) rfl rfl (l' := #[vI p1, vI p2, vI p3, vI p4, vI p5, vI ((p1 &&& (2147483647 : Int32)) % (4 : Int32)), vR b_22, vR b_27, vR b_32, vR b37, vR b47, vR b452, vU, vU]) rfl ?_
              show Go _ _ _ _ (mkF m 124 #[vI p1, vI p2, vI p3, vI p4, vI p5, vI ((p1 &&& (2147483647 : Int32)) % (4 : Int32)), vR b_22, vR b_27, vR b_32, vR b37, vR b47, vR b452, vU, vU] []) _
              refine XS.aload X468.here hx rfl (hb hby at_124) rfl rfl ?_
              exact kt))
            have f498 := (A452.keep Kq468)
            obtain ⟨cq497, kq497, q497a, q497b, q497c⟩ := isOf hZ rfl f498
            obtain ⟨_, _, ⟨T496, L496, k496, n496⟩, -, X496, ⟨_, hQ496, l496, y496, z496⟩, st496⟩ := X468.virtualBack hx (y := ym54) (z := ym54) hown (ow hZ hw 115 rfl) (ow hZ hw 116 rfl) (notFace_of_selects (args := #[]) (ow hZ hw 118 rfl)) (ow hZ hw 118 rfl) (ow hZ hw 117 rfl) (by decide) (backOf (W := 0) (rm15_3 l Z a0 hw [] cx b452 r_468 b_22 b_27 b_32 ra_468 kr_468 (own_sts cw p2) (own_sts cw p3) (own_sts cw p4) (own_stp cw p2) (own_stp cw p3) (own_stp cw p4) T468.heap n0 O472 fq468_0 fq468_1 fq468_2 fq468_3 f474 f479 f480 f481 f486 f487 f488 f493 f494 gg24 gg29 gg34) hZ (ox hw 119 rfl) (ox hw 77 rfl) (by decide) (by decide)) q497a q497c (g := (mkF m 126 #[vI p1, vI p2, vI p3, vI p4, vI p5, vI ((p1 &&& (2147483647 : Int32)) % (4 : Int32)), vR b_22, vR b_27, vR b_32, vR b37, vR b47, vR b452, vU, vU] [(.ref b452)])) rfl (by rw [hml]; rfl) (Steps.refl _) (argsL := []) (rest := []) (lenOf pd_25 rfl) rfl own_le0 (hb hby at_126) (fun _ _ => ⟨rfl, rfl, (by decide : 22 + 2 ≤ _), (by decide : 95 + 5 ≤ _)⟩)
            dsimp only [Pt.U, Pt.locs, Pt.cells, Pt.slots] at X496 l496 y496 z496 st496 hQ496
            subst l496 y496 z496
            obtain ⟨b_496, rfl, Nq496, Kq496, fq496_0, fq496_1⟩ := hQ496
            have N499 := Fr.app N469 Nq496
            have O500 := O472.keep Kq496 all0
            have hk501 : _ ≤ T496.heap.size := Nat.le_trans hk473 Kq496.1
            have q502 := fun t (kt : Go p e below T496 (mkF m 131 #[vI p1, vI p2, vI p3, vI p4, vI p5, vI ((p1 &&& (2147483647 : Int32)) % (4 : Int32)), vR b_22, vR b_27, vR b_32, vR b37, vR b47, vR b452, vR b_496, vU] []) t) => q495 t (st496.trans (by
              show Go _ _ _ _ (mkF m 129 #[vI p1, vI p2, vI p3, vI p4, vI p5, vI ((p1 &&& (2147483647 : Int32)) % (4 : Int32)), vR b_22, vR b_27, vR b_32, vR b37, vR b47, vR b452, vU, vU] [(.ref b_496)]) _
              refine XS.astore X496.here hx rfl (hb hby at_129) rfl rfl (l' := #[vI p1, vI p2, vI p3, vI p4, vI p5, vI ((p1 &&& (2147483647 : Int32)) % (4 : Int32)), vR b_22, vR b_27, vR b_32, vR b37, vR b47, vR b452, vR b_496, vU]) rfl ?_
              exact kt))
            exact ⟨T496, T496.heap, _, b452, b_496, X496.mono (by decide) (by decide), rfl, O500, N499, (Nat.le_trans (Nat.le_trans (Nat.le_trans (Nat.le_refl _) E452.1) Kq468.1) Kq496.1), fq496_0, fq496_1, q502⟩
          · have q503 := fun t (kt : Go p e below T442 (mkF m 104 #[vI p1, vI p2, vI p3, vI p4, vI p5, vI ((p1 &&& (2147483647 : Int32)) % (4 : Int32)), vR b_22, vR b_27, vR b_32, vR b37, vR b47, vU, vU, vU] [(.int ((((p5.toUInt32 >>> ((1 : Int32) &&& 31).toUInt32).toInt32) &&& (255 : Int32)).toUInt32.toUInt16.toUInt32.toInt32)), (.ref b47)]) t) => q449 t (by
              show Go _ _ _ _ (mkF m 90 #[vI p1, vI p2, vI p3, vI p4, vI p5, vI ((p1 &&& (2147483647 : Int32)) % (4 : Int32)), vR b_22, vR b_27, vR b_32, vR b37, vR b47, vU, vU, vU] [(.int (p5 &&& (1 : Int32)))]) _
              refine XS.ifNo X442.here hx rfl (hb hby at_90) rfl ((if0 _ _).trans (feq hc450).1) ?_
              show Go _ _ _ _ (mkF m 93 _ []) _
              refine XS.aload X442.here hx rfl (hb hby at_93) rfl rfl ?_
              show Go _ _ _ _ (mkF m 95 _ [(.ref b47)]) _
              refine XS.iload X442.here hx rfl (hb hby at_95) rfl ?_
              show Go _ _ _ _ (mkF m 97 _ [(.int p5), (.ref b47)]) _
              refine XS.iconst X442.here hx rfl (hb hby at_97) ?_
              show Go _ _ _ _ (mkF m 98 _ [(.int 1), (.int p5), (.ref b47)]) _
              refine XS.iushr X442.here hx rfl (hb hby at_98) rfl ?_
              show Go _ _ _ _ (mkF m 99 _ [(.int ((p5.toUInt32 >>> ((1 : Int32) &&& 31).toUInt32).toInt32)), (.ref b47)]) _
              refine XS.sipush X442.here hx rfl (hb hby at_99) ?_
              show Go _ _ _ _ (mkF m 102 _ [(.int 255), (.int ((p5.toUInt32 >>> ((1 : Int32) &&& 31).toUInt32).toInt32)), (.ref b47)]) _
              refine XS.iand X442.here hx rfl (hb hby at_102) rfl ?_
              show Go _ _ _ _ (mkF m 103 _ [(.int (((p5.toUInt32 >>> ((1 : Int32) &&& 31).toUInt32).toInt32) &&& (255 : Int32))), (.ref b47)]) _
              refine XS.i2c X442.here hx rfl (hb hby at_103) rfl ?_
              exact kt)
            have q504 := fun t (kt : Go p e below T442 (mkF m 104 #[vI p1, vI p2, vI p3, vI p4, vI p5, vI ((p1 &&& (2147483647 : Int32)) % (4 : Int32)), vR b_22, vR b_27, vR b_32, vR b37, vR b47, vU, vU, vU] [(.int (((p5.toUInt32 >>> ((1 : Int32) &&& 31).toUInt32).toInt32) &&& (255 : Int32))), (.ref b47)]) t) => q503 t (by rw [(i2c_mask ((p5.toUInt32 >>> ((1 : Int32) &&& 31).toUInt32).toInt32))]; exact kt)
            obtain ⟨_, _, ⟨T505, L505, k505, n505⟩, -, X505, ⟨_, hQ505, l505, y505, z505⟩, st505⟩ := Jvm.LawKit.callS X442 hx (y := ym16) hown (ow hZ hw 213 rfl) (ow hZ hw 214 rfl) (ow hZ hw 12 rfl) (ow hZ hw 215 rfl) (by decide) (backOf (W := 1) (rm27 l Z a0 hw [] cx (((p5.toUInt32 >>> ((1 : Int32) &&& 31).toUInt32).toInt32) &&& (255 : Int32)) T442.heap n0 O445 (own_and255 _)) hZ (ox hw 215 rfl) (ox hw 12 rfl) (by decide) (by decide)) (g := (mkF m 104 #[vI p1, vI p2, vI p3, vI p4, vI p5, vI ((p1 &&& (2147483647 : Int32)) % (4 : Int32)), vR b_22, vR b_27, vR b_32, vR b37, vR b47, vU, vU, vU] [(.int (((p5.toUInt32 >>> ((1 : Int32) &&& 31).toUInt32).toInt32) &&& (255 : Int32))), (.ref b47)])) rfl (by rw [hml]; rfl) (argsL := [(.int (((p5.toUInt32 >>> ((1 : Int32) &&& 31).toUInt32).toInt32) &&& (255 : Int32)))]) (rest := [(.ref b47)]) (lenOf pd_32 rfl) rfl own_le0 (hb hby at_104) (fun _ _ => ⟨rfl, rfl, (by decide : 18 + 2 ≤ _), (by decide : 85 + 5 ≤ _)⟩)
            dsimp only [Pt.U, Pt.locs, Pt.cells, Pt.slots] at X505 l505 y505 z505 st505 hQ505
            subst l505 y505 z505
            obtain ⟨b_505, rfl, Nq505, Kq505, fr505_0, fq505_0⟩ := hQ505
            have N506 := Fr.app N444 Nq505
            have gg507 : n0 ≤ b_505 := Nat.le_trans (O445.1 ▸ O445.2.1) fr505_0
            have O508 := O445.keep Kq505 all0
            have hk509 : _ ≤ T505.heap.size := Nat.le_trans hk446 Kq505.1
            have f510 := (((((A47.keep Kq52).keep Kq143).keep Kq274).keep Kq442).keep Kq505)
            have ne511 : b47 ≠ b_143 := (Nat.ne_of_lt (Nat.lt_of_lt_of_le (A47.keep Kq52).lt fr143_0))
            have f512 := ((((fq52_0.keep Kq143 (ninS (Ne.symm ne138) nin0)).keep Kq274 (ninS (Ne.symm ne138) (ninS ne511 nin0))).keep Kq442 (ninS (Ne.symm ne138) (ninS ne511 nin0))).keep Kq505 nin0)
            have f513 := ((((fq52_1.keep Kq143 (ninS (Ne.symm ne138) nin0)).keep Kq274 (ninS (Ne.symm ne138) (ninS ne511 nin0))).keep Kq442 (ninS (Ne.symm ne138) (ninS ne511 nin0))).keep Kq505 nin0)
            have f514 := ((((fq52_2.keep Kq143 (ninS (Ne.symm ne138) nin0)).keep Kq274 (ninS (Ne.symm ne138) (ninS ne511 nin0))).keep Kq442 (ninS (Ne.symm ne138) (ninS ne511 nin0))).keep Kq505 nin0)
            obtain ⟨cq516, kq516, q516a, q516b, q516c⟩ := isOf hZ rfl f510
            obtain ⟨_, _, ⟨T515, L515, k515, n515⟩, -, X515, ⟨_, hQ515, l515, y515, z515⟩, st515⟩ := X505.virtualBack hx (y := ym12) (z := ym12) hown (ow hZ hw 184 rfl) (ow hZ hw 185 rfl) (notFace_of_selects (args := #[]) (ow hZ hw 187 rfl)) (ow hZ hw 187 rfl) (ow hZ hw 186 rfl) (by decide) (backOf (W := 0) (rm22_0 l Z a0 hw [] cx (sk15) b47 b_505 (0 : Int32) T505.heap n0 O508 f510 fq505_0 f512 f513 f514 gg48 (ox hw 232 rfl)) hZ (ox hw 188 rfl) (ox hw 53 rfl) (by decide) (by decide)) q516a q516c (g := (mkF m 107 #[vI p1, vI p2, vI p3, vI p4, vI p5, vI ((p1 &&& (2147483647 : Int32)) % (4 : Int32)), vR b_22, vR b_27, vR b_32, vR b37, vR b47, vU, vU, vU] [(.ref b_505), (.ref b47)])) rfl (by rw [hml]; rfl) (Steps.refl _) (argsL := [(.ref b_505)]) (rest := []) (lenOf pd_33 rfl) rfl own_le0 (hb hby at_107) (fun _ _ => ⟨rfl, rfl, (by decide : 20 + 1 ≤ _), (by decide : 90 + 10 ≤ _)⟩)
            dsimp only [Pt.U, Pt.locs, Pt.cells, Pt.slots] at X515 l515 y515 z515 st515 hQ515
            subst l515 y515 z515
            obtain ⟨b_515, kb_515, z'_515, rfl, Nq515, Kq515, fr515_0, fq515_0, fq515_1, fq515_2, fq515_3, fq515_4, pq515_0⟩ := hQ515
            have N517 := Fr.app N506 Nq515
            have gg518 : n0 ≤ b_515 := Nat.le_trans (O508.1 ▸ O508.2.1) fr515_0
            have O519 := O508.keep Kq515 (allS gg48 all0)
            have hk520 : _ ≤ T515.heap.size := Nat.le_trans hk509 Kq515.1
            have q521 := fun t (kt : Go p e below T515 (mkF m 111 #[vI p1, vI p2, vI p3, vI p4, vI p5, vI ((p1 &&& (2147483647 : Int32)) % (4 : Int32)), vR b_22, vR b_27, vR b_32, vR b37, vR b47, vU, vU, vU] []) t) => q504 t (st505 t (st515.trans (by
              show Go _ _ _ _ (mkF m 110 #[vI p1, vI p2, vI p3, vI p4, vI p5, vI ((p1 &&& (2147483647 : Int32)) % (4 : Int32)), vR b_22, vR b_27, vR b_32, vR b37, vR b47, vU, vU, vU] [(.int 1)]) _
              refine XS.pop X515.here hx rfl (hb hby at_110) rfl rfl ?_
              exact kt)))
            obtain ⟨T522, h522, X522, e522, E522, A522, D522, U522, st522⟩ := newO X515 hx hZ hown (ox hw 75 rfl) (ox hw 76 rfl) (ox hw 77 rfl) rfl (g := (mkF m 111 #[vI p1, vI p2, vI p3, vI p4, vI p5, vI ((p1 &&& (2147483647 : Int32)) % (4 : Int32)), vR b_22, vR b_27, vR b_32, vR b37, vR b47, vU, vU, vU] [])) rfl (hb hby at_111) (by decide) (by decide)
            obtain ⟨b522, g522⟩ : ∃ z, z = T515.heap.size := ⟨_, rfl⟩
            rw [← g522] at A522 D522 st522
            have gg523 : n0 ≤ b522 := Nat.le_trans (O519.1 ▸ O519.2.1) (Nat.le_of_eq g522.symm)
            have O524 := O519.ext E522
            have hk525 : _ ≤ h522.size := Nat.le_trans hk520 E522.1
            have F522_outcomes : Fld Z h522 b522 sk8 "outcomes" sk5 .null := D522 (Or.inr (ox hw 112 rfl)) (ty := (.object sk23)) (by decide)
            have F522_notes : Fld Z h522 b522 sk8 "notes" sk5 .null := D522 (Or.inr (ox hw 114 rfl)) (ty := (.object sk23)) (by decide)
            have f526 := ((((f439.keep Kq442).keep Kq505).keep Kq515).ext E522)
            have f527 := (((fq442_2.keep Kq505 nin0).keep Kq515 (ninS ne138 nin0)).ext E522)
            have f528 := (((fq442_1.keep Kq505 nin0).keep Kq515 (ninS ne138 nin0)).ext E522)
            have f529 := (((fq442_3.keep Kq505 nin0).keep Kq515 (ninS (Ne.symm ne511) nin0)).ext E522)
            have f530 := (((((fq143_4.keep Kq274).keep Kq442).keep Kq505).keep Kq515).ext E522)
            have f531 := ((((((f137.keep Kq143).keep Kq274).keep Kq442).keep Kq505).keep Kq515).ext E522)
            have f532 := (((((f271.keep Kq274).keep Kq442).keep Kq505).keep Kq515).ext E522)
            have f533 := ((((f440.keep Kq442).keep Kq505).keep Kq515).ext E522)
            have f534 := ((f510.keep Kq515).ext E522)
            have f535 := (fq515_2.ext E522)
            have f536 := (fq515_1.ext E522)
            have f537 := (fq515_3.ext E522)
            have f538 := (fq515_4.ext E522)
            have f539 := ((fq505_0.keep Kq515).ext E522)
            have q540 := fun t (kt : Go p e below T522 (mkF m 119 #[vI p1, vI p2, vI p3, vI p4, vI p5, vI ((p1 &&& (2147483647 : Int32)) % (4 : Int32)), vR b_22, vR b_27, vR b_32, vR b37, vR b47, vU, vU, vU] [(.ref b47), (.ref b37), (.ref b522), (.ref b522)]) t) => q521 t (st522 t (by
              show Go _ _ _ _ (mkF m 114 #[vI p1, vI p2, vI p3, vI p4, vI p5, vI ((p1 &&& (2147483647 : Int32)) % (4 : Int32)), vR b_22, vR b_27, vR b_32, vR b37, vR b47, vU, vU, vU] [(.ref b522)]) _
              refine XS.dup X522.here hx rfl (hb hby at_114) rfl rfl ?_
              show Go _ _ _ _ (mkF m 115 _ [(.ref b522), (.ref b522)]) _
              refine XS.aload X522.here hx rfl (hb hby at_115) rfl rfl ?_
              show Go _ _ _ _ (mkF m 117 _ [(.ref b37), (.ref b522), (.ref b522)]) _
              refine XS.aload X522.here hx rfl (hb hby at_117) rfl rfl ?_
              exact kt))
            obtain ⟨_, _, ⟨T541, L541, k541, n541⟩, -, X541, ⟨_, hQ541, l541, y541, z541⟩, st541⟩ := X522.specialBack hx (y := ym35) rfl hown (ow hZ hw 78 rfl) (ow hZ hw 79 rfl) (ow hZ hw 80 rfl) (by decide) (backOf (W := 1) (rm10_31 l Z a0 hw [] cx b522 b37 b47 b_143 b_22 b_27 b_32 kb_143 b_515 b_505 kb_515 h522 n0 O524 A522 F522_outcomes F522_notes f526 f527 f528 f529 f530 f531 f532 f533 f534 f535 f536 f537 f538 f539 gg523) hZ (ox hw 80 rfl) (ox hw 77 rfl) (by decide) (by decide)) (g := (mkF m 119 #[vI p1, vI p2, vI p3, vI p4, vI p5, vI ((p1 &&& (2147483647 : Int32)) % (4 : Int32)), vR b_22, vR b_27, vR b_32, vR b37, vR b47, vU, vU, vU] [(.ref b47), (.ref b37), (.ref b522), (.ref b522)])) rfl (by rw [hml]; rfl) (Steps.refl _) (a := b522) (argsL := [(.ref b37), (.ref b47)]) (rest := [(.ref b522)]) (lenOf pd_31 rfl) rfl own_le0 (hb hby at_119) (fun _ _ => ⟨rfl, e522, (by decide : 22 + 5 ≤ _), (by decide : 102 + 11 ≤ _)⟩)
            dsimp only [Pt.U, Pt.locs, Pt.cells, Pt.slots] at X541 l541 y541 z541 st541 hQ541
            subst l541 y541 z541
            obtain ⟨r_541, ra_541, kr_541, rfl, Nq541, Kq541, fr541_0, fr541_1, fq541_0, fq541_1, fq541_2, fq541_3⟩ := hQ541
            have N542 := Fr.app N517 Nq541
            have gg543 : n0 ≤ r_541 := Nat.le_trans (O524.1 ▸ O524.2.1) fr541_0
            have gg544 : n0 ≤ ra_541 := Nat.le_trans (O524.1 ▸ O524.2.1) fr541_1
            have O545 := O524.keep Kq541 (allS gg523 all0)
            have hk546 : _ ≤ T541.heap.size := Nat.le_trans hk525 Kq541.1
            have f547 := (f531.keep Kq541)
            have ne548 : b_22 ≠ b37 := (Nat.ne_of_lt (Nat.lt_of_lt_of_le ((fq22_0.keep Kq27).keep Kq32).lt (Nat.le_of_eq g37.symm)))
            have ne549 : b_22 ≠ b47 := (Nat.ne_of_lt (Nat.lt_of_lt_of_le ((((fq22_0.keep Kq27).keep Kq32).ext E37).keep Kq42).lt (Nat.le_of_eq g47.symm)))
            have ne550 : b_22 ≠ b_143 := (Nat.ne_of_lt (Nat.lt_of_lt_of_le f137.lt fr143_0))
            have ne551 : b_22 ≠ b522 := (Nat.ne_of_lt (Nat.lt_of_lt_of_le (((((f137.keep Kq143).keep Kq274).keep Kq442).keep Kq505).keep Kq515).lt (Nat.le_of_eq g522.symm)))
            have f552 := (((((((((((((fq22_1.keep Kq27 nin0).keep Kq32 nin0).ext E37).keep Kq42 (ninS ne548 nin0)).ext E47).keep Kq52 (ninS ne549 nin0)).keep Kq143 (ninS ne548 nin0)).keep Kq274 (ninS ne548 (ninS ne550 nin0))).keep Kq442 (ninS ne548 (ninS ne550 nin0))).keep Kq505 nin0).keep Kq515 (ninS ne549 nin0)).ext E522).keep Kq541 (ninS ne551 nin0))
            have f553 := (((((((((((((fq22_2.keep Kq27 nin0).keep Kq32 nin0).ext E37).keep Kq42 (ninS ne548 nin0)).ext E47).keep Kq52 (ninS ne549 nin0)).keep Kq143 (ninS ne548 nin0)).keep Kq274 (ninS ne548 (ninS ne550 nin0))).keep Kq442 (ninS ne548 (ninS ne550 nin0))).keep Kq505 nin0).keep Kq515 (ninS ne549 nin0)).ext E522).keep Kq541 (ninS ne551 nin0))
            have f554 := (f532.keep Kq541)
            have ne555 : b_27 ≠ b37 := (Nat.ne_of_lt (Nat.lt_of_lt_of_le (fq27_0.keep Kq32).lt (Nat.le_of_eq g37.symm)))
            have ne556 : b_27 ≠ b47 := (Nat.ne_of_lt (Nat.lt_of_lt_of_le (((fq27_0.keep Kq32).ext E37).keep Kq42).lt (Nat.le_of_eq g47.symm)))
            have ne557 : b_27 ≠ b_143 := (Nat.ne_of_lt (Nat.lt_of_lt_of_le (((((fq27_0.keep Kq32).ext E37).keep Kq42).ext E47).keep Kq52).lt fr143_0))
            have ne558 : b_27 ≠ b522 := (Nat.ne_of_lt (Nat.lt_of_lt_of_le ((((f271.keep Kq274).keep Kq442).keep Kq505).keep Kq515).lt (Nat.le_of_eq g522.symm)))
            have f559 := ((((((((((((fq27_1.keep Kq32 nin0).ext E37).keep Kq42 (ninS ne555 nin0)).ext E47).keep Kq52 (ninS ne556 nin0)).keep Kq143 (ninS ne555 nin0)).keep Kq274 (ninS ne555 (ninS ne557 nin0))).keep Kq442 (ninS ne555 (ninS ne557 nin0))).keep Kq505 nin0).keep Kq515 (ninS ne556 nin0)).ext E522).keep Kq541 (ninS ne558 nin0))
            have f560 := ((((((((((((fq27_2.keep Kq32 nin0).ext E37).keep Kq42 (ninS ne555 nin0)).ext E47).keep Kq52 (ninS ne556 nin0)).keep Kq143 (ninS ne555 nin0)).keep Kq274 (ninS ne555 (ninS ne557 nin0))).keep Kq442 (ninS ne555 (ninS ne557 nin0))).keep Kq505 nin0).keep Kq515 (ninS ne556 nin0)).ext E522).keep Kq541 (ninS ne558 nin0))
            have f561 := (f533.keep Kq541)
            have ne562 : b_32 ≠ b37 := (Nat.ne_of_lt (Nat.lt_of_lt_of_le fq32_0.lt (Nat.le_of_eq g37.symm)))
            have ne563 : b_32 ≠ b47 := (Nat.ne_of_lt (Nat.lt_of_lt_of_le ((fq32_0.ext E37).keep Kq42).lt (Nat.le_of_eq g47.symm)))
            have ne564 : b_32 ≠ b_143 := (Nat.ne_of_lt (Nat.lt_of_lt_of_le ((((fq32_0.ext E37).keep Kq42).ext E47).keep Kq52).lt fr143_0))
            have ne565 : b_32 ≠ b522 := (Nat.ne_of_lt (Nat.lt_of_lt_of_le (((f440.keep Kq442).keep Kq505).keep Kq515).lt (Nat.le_of_eq g522.symm)))
            have f566 := (((((((((((fq32_1.ext E37).keep Kq42 (ninS ne562 nin0)).ext E47).keep Kq52 (ninS ne563 nin0)).keep Kq143 (ninS ne562 nin0)).keep Kq274 (ninS ne562 (ninS ne564 nin0))).keep Kq442 (ninS ne562 (ninS ne564 nin0))).keep Kq505 nin0).keep Kq515 (ninS ne563 nin0)).ext E522).keep Kq541 (ninS ne565 nin0))
            have f567 := (((((((((((fq32_2.ext E37).keep Kq42 (ninS ne562 nin0)).ext E47).keep Kq52 (ninS ne563 nin0)).keep Kq143 (ninS ne562 nin0)).keep Kq274 (ninS ne562 (ninS ne564 nin0))).keep Kq442 (ninS ne562 (ninS ne564 nin0))).keep Kq505 nin0).keep Kq515 (ninS ne563 nin0)).ext E522).keep Kq541 (ninS ne565 nin0))
            have q568 := fun t (kt : Go p e below T541 (mkF m 126 #[vI p1, vI p2, vI p3, vI p4, vI p5, vI ((p1 &&& (2147483647 : Int32)) % (4 : Int32)), vR b_22, vR b_27, vR b_32, vR b37, vR b47, vR b522, vU, vU] [(.ref b522)]) t) => q540 t (st541.trans (by
              show Go _ _ _ _ (mkF m 122 #[vI p1, vI p2, vI p3, vI p4, vI p5, vI ((p1 &&& (2147483647 : Int32)) % (4 : Int32)), vR b_22, vR b_27, vR b_32, vR b37, vR b47, vU, vU, vU] [(.ref b522)]) _
              refine XS.astore X541.here hx rfl (hb hby at_122) rfl rfl (l' := #[vI p1, vI p2, vI p3, vI p4, vI p5, vI ((p1 &&& (2147483647 : Int32)) % (4 : Int32)), vR b_22, vR b_27, vR b_32, vR b37, vR b47, vR b522, vU, vU]) rfl ?_
              show Go _ _ _ _ (mkF m 124 #[vI p1, vI p2, vI p3, vI p4, vI p5, vI ((p1 &&& (2147483647 : Int32)) % (4 : Int32)), vR b_22, vR b_27, vR b_32, vR b37, vR b47, vR b522, vU, vU] []) _
              refine XS.aload X541.here hx rfl (hb hby at_124) rfl rfl ?_
              exact kt))
            have f571 := (A522.keep Kq541)
            obtain ⟨cq570, kq570, q570a, q570b, q570c⟩ := isOf hZ rfl f571
            obtain ⟨_, _, ⟨T569, L569, k569, n569⟩, -, X569, ⟨_, hQ569, l569, y569, z569⟩, st569⟩ := X541.virtualBack hx (y := ym54) (z := ym54) hown (ow hZ hw 115 rfl) (ow hZ hw 116 rfl) (notFace_of_selects (args := #[]) (ow hZ hw 118 rfl)) (ow hZ hw 118 rfl) (ow hZ hw 117 rfl) (by decide) (backOf (W := 0) (rm15_3 l Z a0 hw [] cx b522 r_541 b_22 b_27 b_32 ra_541 kr_541 (own_sts cw p2) (own_sts cw p3) (own_sts cw p4) (own_stp cw p2) (own_stp cw p3) (own_stp cw p4) T541.heap n0 O545 fq541_0 fq541_1 fq541_2 fq541_3 f547 f552 f553 f554 f559 f560 f561 f566 f567 gg24 gg29 gg34) hZ (ox hw 119 rfl) (ox hw 77 rfl) (by decide) (by decide)) q570a q570c (g := (mkF m 126 #[vI p1, vI p2, vI p3, vI p4, vI p5, vI ((p1 &&& (2147483647 : Int32)) % (4 : Int32)), vR b_22, vR b_27, vR b_32, vR b37, vR b47, vR b522, vU, vU] [(.ref b522)])) rfl (by rw [hml]; rfl) (Steps.refl _) (argsL := []) (rest := []) (lenOf pd_25 rfl) rfl own_le0 (hb hby at_126) (fun _ _ => ⟨rfl, rfl, (by decide : 27 + 2 ≤ _), (by decide : 113 + 5 ≤ _)⟩)
            dsimp only [Pt.U, Pt.locs, Pt.cells, Pt.slots] at X569 l569 y569 z569 st569 hQ569
            subst l569 y569 z569
            obtain ⟨b_569, rfl, Nq569, Kq569, fq569_0, fq569_1⟩ := hQ569
            have N572 := Fr.app N542 Nq569
            have O573 := O545.keep Kq569 all0
            have hk574 : _ ≤ T569.heap.size := Nat.le_trans hk546 Kq569.1
            have q575 := fun t (kt : Go p e below T569 (mkF m 131 #[vI p1, vI p2, vI p3, vI p4, vI p5, vI ((p1 &&& (2147483647 : Int32)) % (4 : Int32)), vR b_22, vR b_27, vR b_32, vR b37, vR b47, vR b522, vR b_569, vU] []) t) => q568 t (st569.trans (by
              show Go _ _ _ _ (mkF m 129 #[vI p1, vI p2, vI p3, vI p4, vI p5, vI ((p1 &&& (2147483647 : Int32)) % (4 : Int32)), vR b_22, vR b_27, vR b_32, vR b37, vR b47, vR b522, vU, vU] [(.ref b_569)]) _
              refine XS.astore X569.here hx rfl (hb hby at_129) rfl rfl (l' := #[vI p1, vI p2, vI p3, vI p4, vI p5, vI ((p1 &&& (2147483647 : Int32)) % (4 : Int32)), vR b_22, vR b_27, vR b_32, vR b37, vR b47, vR b522, vR b_569, vU]) rfl ?_
              exact kt))
            exact ⟨T569, T569.heap, _, b522, b_569, X569.mono (by decide) (by decide), rfl, O573, N572, (Nat.le_trans (Nat.le_trans (Nat.le_trans (Nat.le_trans (Nat.le_trans (Nat.le_refl _) Kq505.1) Kq515.1) E522.1) Kq541.1) Kq569.1), fq569_0, fq569_1, q575⟩
        have hk448 := Nat.le_trans hk446 sk448
        have q576 := fun t (kt : Go p e below T448 (mkF m 141 #[vI p1, vI p2, vI p3, vI p4, vI p5, vI ((p1 &&& (2147483647 : Int32)) % (4 : Int32)), vR b_22, vR b_27, vR b_32, vR b37, vR b47, vR vv, vR ob, vN] [(.int p2)]) t) => q448 t (by
          show Go _ _ _ _ (mkF m 131 #[vI p1, vI p2, vI p3, vI p4, vI p5, vI ((p1 &&& (2147483647 : Int32)) % (4 : Int32)), vR b_22, vR b_27, vR b_32, vR b37, vR b47, vR vv, vR ob, vU] []) _
          refine XS.aconstNull X448.here hx rfl (hb hby at_131) ?_
          show Go _ _ _ _ (mkF m 132 _ [.null]) _
          refine XS.astore X448.here hx rfl (hb hby at_132) rfl rfl (l' := #[vI p1, vI p2, vI p3, vI p4, vI p5, vI ((p1 &&& (2147483647 : Int32)) % (4 : Int32)), vR b_22, vR b_27, vR b_32, vR b37, vR b47, vR vv, vR ob, vN]) rfl ?_
          show Go _ _ _ _ (mkF m 134 #[vI p1, vI p2, vI p3, vI p4, vI p5, vI ((p1 &&& (2147483647 : Int32)) % (4 : Int32)), vR b_22, vR b_27, vR b_32, vR b37, vR b47, vR vv, vR ob, vN] []) _
          refine XS.iload X448.here hx rfl (hb hby at_134) rfl ?_
          show Go _ _ _ _ (mkF m 136 _ [(.int ((p1 &&& (2147483647 : Int32)) % (4 : Int32)))]) _
          refine XS.iconst X448.here hx rfl (hb hby at_136) ?_
          show Go _ _ _ _ (mkF m 137 _ [(.int 1), (.int ((p1 &&& (2147483647 : Int32)) % (4 : Int32)))]) _
          refine XS.icmpNo X448.here hx rfl (hb hby at_137) rfl (flt hc57).1 ?_
          show Go _ _ _ _ (mkF m 140 _ []) _
          refine XS.iloadN X448.here hx rfl (hb hby at_140) rfl ?_
          exact kt)
        obtain ⟨_, _, ⟨T577, L577, k577, n577⟩, -, X577, ⟨_, hQ577, l577, y577, z577⟩, st577⟩ := Jvm.LawKit.callS X448 hx (y := ym5) hown (ow hZ hw 5 rfl) (ow hZ hw 6 rfl) (ow hZ hw 3 rfl) (ow hZ hw 7 rfl) (by decide) (backOf (W := 0) (rm2 l Z a0 hw [] cx p2 h448 n0 O448 ) hZ (ox hw 7 rfl) (ox hw 3 rfl) (by decide) (by decide)) (g := (mkF m 141 #[vI p1, vI p2, vI p3, vI p4, vI p5, vI ((p1 &&& (2147483647 : Int32)) % (4 : Int32)), vR b_22, vR b_27, vR b_32, vR b37, vR b47, vR vv, vR ob, vN] [(.int p2)])) rfl (by rw [hml]; rfl) (argsL := [(.int p2)]) (rest := []) (lenOf pd_1 rfl) rfl own_le0 (hb hby at_141) (fun _ _ => ⟨rfl, e448, (by decide : 30 + 0 ≤ _), (by decide : 145 + 0 ≤ _)⟩)
        dsimp only [Pt.U, Pt.locs, Pt.cells, Pt.slots] at X577 l577 y577 z577 st577 hQ577
        subst l577 y577 z577
        obtain ⟨rfl, Nq577, eq577⟩ := hQ577
        have N578 := Fr.app N448 Nq577
        obtain ⟨T579, X579, e579, st579⟩ := getS2 X577 hx hZ hown (host := "") (Or.inl (ox hw 19 rfl)) Via.refl eq577 (cx.2.2.1.ext O448.2) (g := (mkF m 144 #[vI p1, vI p2, vI p3, vI p4, vI p5, vI ((p1 &&& (2147483647 : Int32)) % (4 : Int32)), vR b_22, vR b_27, vR b_32, vR b37, vR b47, vR vv, vR ob, vN] [(.ref (own_sts cw p2))])) rfl (hb hby at_144)
        have q580 := fun t (kt : Go p e below T579 (mkF m 147 #[vI p1, vI p2, vI p3, vI p4, vI p5, vI ((p1 &&& (2147483647 : Int32)) % (4 : Int32)), vR b_22, vR b_27, vR b_32, vR b37, vR b47, vR vv, vR ob, vN] [(.ref (cw 1)), (.ref (own_sts cw p2))]) t) => q576 t (st577 t (st579 t kt))
        by_cases hc581 : (own_sts cw p2) = (cw 1)
        · have q582 := fun t (kt : Go p e below T579 (mkF m 151 #[vI p1, vI p2, vI p3, vI p4, vI p5, vI ((p1 &&& (2147483647 : Int32)) % (4 : Int32)), vR b_22, vR b_27, vR b_32, vR b37, vR b47, vR vv, vR ob, vN] [(.int p2)]) t) => q580 t (by
            show Go _ _ _ _ (mkF m 147 #[vI p1, vI p2, vI p3, vI p4, vI p5, vI ((p1 &&& (2147483647 : Int32)) % (4 : Int32)), vR b_22, vR b_27, vR b_32, vR b37, vR b47, vR vv, vR ob, vN] [(.ref (cw 1)), (.ref (own_sts cw p2))]) _
            refine Jvm.RoadKit.acmp (g := (mkF m 147 #[vI p1, vI p2, vI p3, vI p4, vI p5, vI ((p1 &&& (2147483647 : Int32)) % (4 : Int32)), vR b_22, vR b_27, vR b_32, vR b37, vR b47, vR vv, vR ob, vN] [(.ref (cw 1)), (.ref (own_sts cw p2))])) X579 hx rfl rfl rfl (pc0 := 147) (pc' := 150) (same := true) rfl (hb hby at_147) rfl (decide_eq_true (congrArg Value.ref hc581)) (by decide) (by decide) ?_
            show Go _ _ _ _ (mkF m 150 _ []) _
            refine XS.iloadN X579.here hx rfl (hb hby at_150) rfl ?_
            exact kt)
          obtain ⟨_, _, ⟨T583, L583, k583, n583⟩, -, X583, ⟨_, hQ583, l583, y583, z583⟩, st583⟩ := Jvm.LawKit.callS X579 hx (y := ym6) hown (ow hZ hw 24 rfl) (ow hZ hw 25 rfl) (ow hZ hw 3 rfl) (ow hZ hw 26 rfl) (by decide) (backOf (W := 0) (rm3 l Z a0 hw [] cx p2 h448 n0 O448 ) hZ (ox hw 26 rfl) (ox hw 3 rfl) (by decide) (by decide)) (g := (mkF m 151 #[vI p1, vI p2, vI p3, vI p4, vI p5, vI ((p1 &&& (2147483647 : Int32)) % (4 : Int32)), vR b_22, vR b_27, vR b_32, vR b37, vR b47, vR vv, vR ob, vN] [(.int p2)])) rfl (by rw [hml]; rfl) (argsL := [(.int p2)]) (rest := []) (lenOf pd_2 rfl) rfl own_le0 (hb hby at_151) (fun _ _ => ⟨rfl, e579, (by decide : 30 + 0 ≤ _), (by decide : 145 + 0 ≤ _)⟩)
          dsimp only [Pt.U, Pt.locs, Pt.cells, Pt.slots] at X583 l583 y583 z583 st583 hQ583
          subst l583 y583 z583
          obtain ⟨rfl, Nq583, eq583⟩ := hQ583
          have N584 := Fr.app N578 Nq583
          have q586 := fun t (kt : Go p e below T583 (mkF m 206 #[vI p1, vI p2, vI p3, vI p4, vI p5, vI ((p1 &&& (2147483647 : Int32)) % (4 : Int32)), vR b_22, vR b_27, vR b_32, vR b37, vR b47, vR vv, vR ob, vR (own_stp cw p2)] []) t) => q582 t (st583 t (by
            show Go _ _ _ _ (mkF m 154 #[vI p1, vI p2, vI p3, vI p4, vI p5, vI ((p1 &&& (2147483647 : Int32)) % (4 : Int32)), vR b_22, vR b_27, vR b_32, vR b37, vR b47, vR vv, vR ob, vN] [(.ref (own_stp cw p2))]) _
            refine XS.astore X583.here hx rfl (hb hby at_154) rfl rfl (l' := #[vI p1, vI p2, vI p3, vI p4, vI p5, vI ((p1 &&& (2147483647 : Int32)) % (4 : Int32)), vR b_22, vR b_27, vR b_32, vR b37, vR b47, vR vv, vR ob, vR (own_stp cw p2)]) rfl ?_
            show Go _ _ _ _ (mkF m 156 #[vI p1, vI p2, vI p3, vI p4, vI p5, vI ((p1 &&& (2147483647 : Int32)) % (4 : Int32)), vR b_22, vR b_27, vR b_32, vR b37, vR b47, vR vv, vR ob, vR (own_stp cw p2)] []) _
            refine XS.goto X583.here hx rfl (pc0 := 156) (pc' := 206) rfl (hb hby at_156) (by decide) (by decide) ?_
            exact kt))
          have f585 : Fld Z h448 ob sk24 "value" sk3 (.ref (own_stp cw p2)) := by
            have z := mf448_1
            rw [show (own_find (cw 1) [((own_sts cw p2), (own_stp cw p2)), ((own_sts cw p3), (own_stp cw p3)), ((own_sts cw p4), (own_stp cw p4))]) = (.ref (own_stp cw p2)) from by simp [own_find, hc57, hc150, hc280, hc581]] at z
            exact z
          have q587 := fun t (kt : Go p e below T583 (mkF m 219 #[vI p1, vI p2, vI p3, vI p4, vI p5, vI ((p1 &&& (2147483647 : Int32)) % (4 : Int32)), vR b_22, vR b_27, vR b_32, vR b37, vR b47, vR vv, vR ob, vR (own_stp cw p2)] [(.ref ob)]) t) => q586 t (by
            show Go _ _ _ _ (mkF m 206 #[vI p1, vI p2, vI p3, vI p4, vI p5, vI ((p1 &&& (2147483647 : Int32)) % (4 : Int32)), vR b_22, vR b_27, vR b_32, vR b37, vR b47, vR vv, vR ob, vR (own_stp cw p2)] []) _
            refine XS.aload X583.here hx rfl (hb hby at_206) rfl rfl ?_
            show Go _ _ _ _ (mkF m 208 _ [(.ref (own_stp cw p2))]) _
            refine XS.ifnonnullYes X583.here hx rfl (pc0 := 208) (pc' := 217) rfl (hb hby at_208) rfl (by decide) (by decide) ?_
            show Go _ _ _ _ (mkF m 217 _ []) _
            refine XS.aload X583.here hx rfl (hb hby at_217) rfl rfl ?_
            exact kt)
          obtain ⟨cq589, kq589, q589a, q589b, q589c⟩ := isOf hZ eq583 mf448_0
          obtain ⟨_, _, ⟨T588, L588, k588, n588⟩, -, X588, ⟨_, hQ588, l588, y588, z588⟩, st588⟩ := X583.virtualBack hx (y := ym52) (z := ym52) hown (ow hZ hw 358 rfl) (ow hZ hw 359 rfl) (notFace_of_selects (args := #[]) (ow hZ hw 361 rfl)) (ow hZ hw 361 rfl) (ow hZ hw 360 rfl) (by decide) (backOf (W := 0) (rm48 l Z a0 hw [] cx ob (own_stp cw p2) h448 n0 O448 f585) hZ (ox hw 362 rfl) (ox hw 166 rfl) (by decide) (by decide)) q589a q589c (g := (mkF m 219 #[vI p1, vI p2, vI p3, vI p4, vI p5, vI ((p1 &&& (2147483647 : Int32)) % (4 : Int32)), vR b_22, vR b_27, vR b_32, vR b37, vR b47, vR vv, vR ob, vR (own_stp cw p2)] [(.ref ob)])) rfl (by rw [hml]; rfl) (Steps.refl _) (argsL := []) (rest := []) (lenOf pd_15 rfl) rfl own_le0 (hb hby at_219) (fun _ _ => ⟨rfl, eq583, (by decide : 30 + 0 ≤ _), (by decide : 145 + 0 ≤ _)⟩)
          dsimp only [Pt.U, Pt.locs, Pt.cells, Pt.slots] at X588 l588 y588 z588 st588 hQ588
          subst l588 y588 z588
          obtain ⟨rfl, Nq588, eq588⟩ := hQ588
          have N590 := Fr.app N584 Nq588
          have q591 := fun t (kt : Go p e below T588 (mkF m 227 #[vI p1, vI p2, vI p3, vI p4, vI p5, vI ((p1 &&& (2147483647 : Int32)) % (4 : Int32)), vR b_22, vR b_27, vR b_32, vR b37, vR b47, vR vv, vR ob, vR (own_stp cw p2)] [(.ref ob)]) t) => q587 t (st588.trans (by
            show Go _ _ _ _ (mkF m 222 #[vI p1, vI p2, vI p3, vI p4, vI p5, vI ((p1 &&& (2147483647 : Int32)) % (4 : Int32)), vR b_22, vR b_27, vR b_32, vR b37, vR b47, vR vv, vR ob, vR (own_stp cw p2)] [(.int 1)]) _
            refine XS.ifNo X588.here hx rfl (hb hby at_222) rfl ((if0 _ _).trans (feq (by decide : ¬ ((1 : Int32) = (0 : Int32)))).1) ?_
            show Go _ _ _ _ (mkF m 225 _ []) _
            refine XS.aload X588.here hx rfl (hb hby at_225) rfl rfl ?_
            exact kt))
          obtain ⟨cq593, kq593, q593a, q593b, q593c⟩ := isOf hZ eq588 mf448_0
          obtain ⟨_, _, ⟨T592, L592, k592, n592⟩, -, X592, ⟨_, hQ592, l592, y592, z592⟩, st592⟩ := X588.virtualBack hx (y := ym53) (z := ym53) hown (ow hZ hw 363 rfl) (ow hZ hw 364 rfl) (notFace_of_selects (args := #[]) (ow hZ hw 366 rfl)) (ow hZ hw 366 rfl) (ow hZ hw 365 rfl) (by decide) (backOf (W := 0) (rm49 l Z a0 hw [] cx ob (own_stp cw p2) h448 n0 O448 f585) hZ (ox hw 367 rfl) (ox hw 166 rfl) (by decide) (by decide)) q593a q593c (g := (mkF m 227 #[vI p1, vI p2, vI p3, vI p4, vI p5, vI ((p1 &&& (2147483647 : Int32)) % (4 : Int32)), vR b_22, vR b_27, vR b_32, vR b37, vR b47, vR vv, vR ob, vR (own_stp cw p2)] [(.ref ob)])) rfl (by rw [hml]; rfl) (Steps.refl _) (argsL := []) (rest := []) (lenOf pd_26 rfl) rfl own_le0 (hb hby at_227) (fun _ _ => ⟨rfl, eq588, (by decide : 30 + 0 ≤ _), (by decide : 145 + 0 ≤ _)⟩)
          dsimp only [Pt.U, Pt.locs, Pt.cells, Pt.slots] at X592 l592 y592 z592 st592 hQ592
          subst l592 y592 z592
          obtain ⟨rfl, Nq592, eq592⟩ := hQ592
          have N594 := Fr.app N590 Nq592
          have q595 := fun t (kt : Go p e below T592 (mkF m 240 #[vI p1, vI p2, vI p3, vI p4, vI p5, vI ((p1 &&& (2147483647 : Int32)) % (4 : Int32)), vR b_22, vR b_27, vR b_32, vR b37, vR b47, vR vv, vR ob, vR (own_stp cw p2)] [(.int 1)]) t) => q591 t (st592.trans (by
            show Go _ _ _ _ (mkF m 230 #[vI p1, vI p2, vI p3, vI p4, vI p5, vI ((p1 &&& (2147483647 : Int32)) % (4 : Int32)), vR b_22, vR b_27, vR b_32, vR b37, vR b47, vR vv, vR ob, vR (own_stp cw p2)] [(.ref (own_stp cw p2))]) _
            refine XS.aload X592.here hx rfl (hb hby at_230) rfl rfl ?_
            show Go _ _ _ _ (mkF m 232 _ [(.ref (own_stp cw p2)), (.ref (own_stp cw p2))]) _
            refine Jvm.RoadKit.acmp (g := (mkF m 232 #[vI p1, vI p2, vI p3, vI p4, vI p5, vI ((p1 &&& (2147483647 : Int32)) % (4 : Int32)), vR b_22, vR b_27, vR b_32, vR b37, vR b47, vR vv, vR ob, vR (own_stp cw p2)] [(.ref (own_stp cw p2)), (.ref (own_stp cw p2))])) X592 hx rfl rfl rfl (pc0 := 232) (pc' := 235) (same := true) rfl (hb hby at_232) rfl (decide_eq_true rfl) (by decide) (by decide) ?_
            show Go _ _ _ _ (mkF m 235 _ []) _
            refine XS.iconst X592.here hx rfl (hb hby at_235) ?_
            show Go _ _ _ _ (mkF m 236 _ [(.int 1)]) _
            refine XS.goto X592.here hx rfl (pc0 := 236) (pc' := 240) rfl (hb hby at_236) (by decide) (by decide) ?_
            exact kt))
          obtain ⟨fs, hr, hrun, hended, hRE⟩ := X592.leaveW hS32 (by rw [eq592]; exact hk448) (v := some (.int 1)) (fun h => by rw [Bd.returns] at h; cases h)
          refine ⟨_, _, q595 _ ?_, hrun, hended, _, _, rfl, ?_, hRE.1, hRE.2.1, hRE.2.2.1, hRE.2.2.2.mono (by decide) (by decide)⟩
          · show Go p e below T592 (mkF m 240 #[vI p1, vI p2, vI p3, vI p4, vI p5, vI ((p1 &&& (2147483647 : Int32)) % (4 : Int32)), vR b_22, vR b_27, vR b_32, vR b37, vR b47, vR vv, vR ob, vR (own_stp cw p2)] [(.int 1)]) _
            exact retN X592 hx (t := .boolean) Bd.returns (by simp) (hb hby at_240) hr
          · show Q_rm0 Z p1 p2 p3 p4 p5 cw z_cs h0 n0 _ T592.heap _
            rw [eq592]
            exact ⟨rfl, N594⟩
        · have q596 := fun t (kt : Go p e below T579 (mkF m 166 #[vI p1, vI p2, vI p3, vI p4, vI p5, vI ((p1 &&& (2147483647 : Int32)) % (4 : Int32)), vR b_22, vR b_27, vR b_32, vR b37, vR b47, vR vv, vR ob, vN] [(.int p3)]) t) => q580 t (by
            show Go _ _ _ _ (mkF m 147 #[vI p1, vI p2, vI p3, vI p4, vI p5, vI ((p1 &&& (2147483647 : Int32)) % (4 : Int32)), vR b_22, vR b_27, vR b_32, vR b37, vR b47, vR vv, vR ob, vN] [(.ref (cw 1)), (.ref (own_sts cw p2))]) _
            refine Jvm.RoadKit.acmp (g := (mkF m 147 #[vI p1, vI p2, vI p3, vI p4, vI p5, vI ((p1 &&& (2147483647 : Int32)) % (4 : Int32)), vR b_22, vR b_27, vR b_32, vR b37, vR b47, vR vv, vR ob, vN] [(.ref (cw 1)), (.ref (own_sts cw p2))])) X579 hx rfl rfl rfl (pc0 := 147) (pc' := 159) (same := false) rfl (hb hby at_147) rfl (decide_eq_false (fun q => hc581 (Value.ref.inj q))) (by decide) (by decide) ?_
            show Go _ _ _ _ (mkF m 159 _ []) _
            refine XS.iload X579.here hx rfl (hb hby at_159) rfl ?_
            show Go _ _ _ _ (mkF m 161 _ [(.int ((p1 &&& (2147483647 : Int32)) % (4 : Int32)))]) _
            refine XS.iconst X579.here hx rfl (hb hby at_161) ?_
            show Go _ _ _ _ (mkF m 162 _ [(.int 2), (.int ((p1 &&& (2147483647 : Int32)) % (4 : Int32)))]) _
            refine XS.icmpNo X579.here hx rfl (hb hby at_162) rfl (flt hc150).1 ?_
            show Go _ _ _ _ (mkF m 165 _ []) _
            refine XS.iloadN X579.here hx rfl (hb hby at_165) rfl ?_
            exact kt)
          obtain ⟨_, _, ⟨T597, L597, k597, n597⟩, -, X597, ⟨_, hQ597, l597, y597, z597⟩, st597⟩ := Jvm.LawKit.callS X579 hx (y := ym5) hown (ow hZ hw 5 rfl) (ow hZ hw 6 rfl) (ow hZ hw 3 rfl) (ow hZ hw 7 rfl) (by decide) (backOf (W := 0) (rm2 l Z a0 hw [] cx p3 h448 n0 O448 ) hZ (ox hw 7 rfl) (ox hw 3 rfl) (by decide) (by decide)) (g := (mkF m 166 #[vI p1, vI p2, vI p3, vI p4, vI p5, vI ((p1 &&& (2147483647 : Int32)) % (4 : Int32)), vR b_22, vR b_27, vR b_32, vR b37, vR b47, vR vv, vR ob, vN] [(.int p3)])) rfl (by rw [hml]; rfl) (argsL := [(.int p3)]) (rest := []) (lenOf pd_1 rfl) rfl own_le0 (hb hby at_166) (fun _ _ => ⟨rfl, e579, (by decide : 30 + 0 ≤ _), (by decide : 145 + 0 ≤ _)⟩)
          dsimp only [Pt.U, Pt.locs, Pt.cells, Pt.slots] at X597 l597 y597 z597 st597 hQ597
          subst l597 y597 z597
          obtain ⟨rfl, Nq597, eq597⟩ := hQ597
          have N598 := Fr.app N578 Nq597
          obtain ⟨T599, X599, e599, st599⟩ := getS2 X597 hx hZ hown (host := "") (Or.inl (ox hw 19 rfl)) Via.refl eq597 (cx.2.2.1.ext O448.2) (g := (mkF m 169 #[vI p1, vI p2, vI p3, vI p4, vI p5, vI ((p1 &&& (2147483647 : Int32)) % (4 : Int32)), vR b_22, vR b_27, vR b_32, vR b37, vR b47, vR vv, vR ob, vN] [(.ref (own_sts cw p3))])) rfl (hb hby at_169)
          have q600 := fun t (kt : Go p e below T599 (mkF m 172 #[vI p1, vI p2, vI p3, vI p4, vI p5, vI ((p1 &&& (2147483647 : Int32)) % (4 : Int32)), vR b_22, vR b_27, vR b_32, vR b37, vR b47, vR vv, vR ob, vN] [(.ref (cw 1)), (.ref (own_sts cw p3))]) t) => q596 t (st597 t (st599 t kt))
          by_cases hc601 : (own_sts cw p3) = (cw 1)
          · have q602 := fun t (kt : Go p e below T599 (mkF m 176 #[vI p1, vI p2, vI p3, vI p4, vI p5, vI ((p1 &&& (2147483647 : Int32)) % (4 : Int32)), vR b_22, vR b_27, vR b_32, vR b37, vR b47, vR vv, vR ob, vN] [(.int p3)]) t) => q600 t (by
              show Go _ _ _ _ (mkF m 172 #[vI p1, vI p2, vI p3, vI p4, vI p5, vI ((p1 &&& (2147483647 : Int32)) % (4 : Int32)), vR b_22, vR b_27, vR b_32, vR b37, vR b47, vR vv, vR ob, vN] [(.ref (cw 1)), (.ref (own_sts cw p3))]) _
              refine Jvm.RoadKit.acmp (g := (mkF m 172 #[vI p1, vI p2, vI p3, vI p4, vI p5, vI ((p1 &&& (2147483647 : Int32)) % (4 : Int32)), vR b_22, vR b_27, vR b_32, vR b37, vR b47, vR vv, vR ob, vN] [(.ref (cw 1)), (.ref (own_sts cw p3))])) X599 hx rfl rfl rfl (pc0 := 172) (pc' := 175) (same := true) rfl (hb hby at_172) rfl (decide_eq_true (congrArg Value.ref hc601)) (by decide) (by decide) ?_
              show Go _ _ _ _ (mkF m 175 _ []) _
              refine XS.iloadN X599.here hx rfl (hb hby at_175) rfl ?_
              exact kt)
            obtain ⟨_, _, ⟨T603, L603, k603, n603⟩, -, X603, ⟨_, hQ603, l603, y603, z603⟩, st603⟩ := Jvm.LawKit.callS X599 hx (y := ym6) hown (ow hZ hw 24 rfl) (ow hZ hw 25 rfl) (ow hZ hw 3 rfl) (ow hZ hw 26 rfl) (by decide) (backOf (W := 0) (rm3 l Z a0 hw [] cx p3 h448 n0 O448 ) hZ (ox hw 26 rfl) (ox hw 3 rfl) (by decide) (by decide)) (g := (mkF m 176 #[vI p1, vI p2, vI p3, vI p4, vI p5, vI ((p1 &&& (2147483647 : Int32)) % (4 : Int32)), vR b_22, vR b_27, vR b_32, vR b37, vR b47, vR vv, vR ob, vN] [(.int p3)])) rfl (by rw [hml]; rfl) (argsL := [(.int p3)]) (rest := []) (lenOf pd_2 rfl) rfl own_le0 (hb hby at_176) (fun _ _ => ⟨rfl, e599, (by decide : 30 + 0 ≤ _), (by decide : 145 + 0 ≤ _)⟩)
            dsimp only [Pt.U, Pt.locs, Pt.cells, Pt.slots] at X603 l603 y603 z603 st603 hQ603
            subst l603 y603 z603
            obtain ⟨rfl, Nq603, eq603⟩ := hQ603
            have N604 := Fr.app N598 Nq603
            have q606 := fun t (kt : Go p e below T603 (mkF m 206 #[vI p1, vI p2, vI p3, vI p4, vI p5, vI ((p1 &&& (2147483647 : Int32)) % (4 : Int32)), vR b_22, vR b_27, vR b_32, vR b37, vR b47, vR vv, vR ob, vR (own_stp cw p3)] []) t) => q602 t (st603 t (by
              show Go _ _ _ _ (mkF m 179 #[vI p1, vI p2, vI p3, vI p4, vI p5, vI ((p1 &&& (2147483647 : Int32)) % (4 : Int32)), vR b_22, vR b_27, vR b_32, vR b37, vR b47, vR vv, vR ob, vN] [(.ref (own_stp cw p3))]) _
              refine XS.astore X603.here hx rfl (hb hby at_179) rfl rfl (l' := #[vI p1, vI p2, vI p3, vI p4, vI p5, vI ((p1 &&& (2147483647 : Int32)) % (4 : Int32)), vR b_22, vR b_27, vR b_32, vR b37, vR b47, vR vv, vR ob, vR (own_stp cw p3)]) rfl ?_
              show Go _ _ _ _ (mkF m 181 #[vI p1, vI p2, vI p3, vI p4, vI p5, vI ((p1 &&& (2147483647 : Int32)) % (4 : Int32)), vR b_22, vR b_27, vR b_32, vR b37, vR b47, vR vv, vR ob, vR (own_stp cw p3)] []) _
              refine XS.goto X603.here hx rfl (pc0 := 181) (pc' := 206) rfl (hb hby at_181) (by decide) (by decide) ?_
              exact kt))
            have f605 : Fld Z h448 ob sk24 "value" sk3 (.ref (own_stp cw p3)) := by
              have z := mf448_1
              rw [show (own_find (cw 1) [((own_sts cw p2), (own_stp cw p2)), ((own_sts cw p3), (own_stp cw p3)), ((own_sts cw p4), (own_stp cw p4))]) = (.ref (own_stp cw p3)) from by simp [own_find, hc57, hc150, hc280, hc581, hc601]] at z
              exact z
            have q607 := fun t (kt : Go p e below T603 (mkF m 219 #[vI p1, vI p2, vI p3, vI p4, vI p5, vI ((p1 &&& (2147483647 : Int32)) % (4 : Int32)), vR b_22, vR b_27, vR b_32, vR b37, vR b47, vR vv, vR ob, vR (own_stp cw p3)] [(.ref ob)]) t) => q606 t (by
              show Go _ _ _ _ (mkF m 206 #[vI p1, vI p2, vI p3, vI p4, vI p5, vI ((p1 &&& (2147483647 : Int32)) % (4 : Int32)), vR b_22, vR b_27, vR b_32, vR b37, vR b47, vR vv, vR ob, vR (own_stp cw p3)] []) _
              refine XS.aload X603.here hx rfl (hb hby at_206) rfl rfl ?_
              show Go _ _ _ _ (mkF m 208 _ [(.ref (own_stp cw p3))]) _
              refine XS.ifnonnullYes X603.here hx rfl (pc0 := 208) (pc' := 217) rfl (hb hby at_208) rfl (by decide) (by decide) ?_
              show Go _ _ _ _ (mkF m 217 _ []) _
              refine XS.aload X603.here hx rfl (hb hby at_217) rfl rfl ?_
              exact kt)
            obtain ⟨cq609, kq609, q609a, q609b, q609c⟩ := isOf hZ eq603 mf448_0
            obtain ⟨_, _, ⟨T608, L608, k608, n608⟩, -, X608, ⟨_, hQ608, l608, y608, z608⟩, st608⟩ := X603.virtualBack hx (y := ym52) (z := ym52) hown (ow hZ hw 358 rfl) (ow hZ hw 359 rfl) (notFace_of_selects (args := #[]) (ow hZ hw 361 rfl)) (ow hZ hw 361 rfl) (ow hZ hw 360 rfl) (by decide) (backOf (W := 0) (rm48 l Z a0 hw [] cx ob (own_stp cw p3) h448 n0 O448 f605) hZ (ox hw 362 rfl) (ox hw 166 rfl) (by decide) (by decide)) q609a q609c (g := (mkF m 219 #[vI p1, vI p2, vI p3, vI p4, vI p5, vI ((p1 &&& (2147483647 : Int32)) % (4 : Int32)), vR b_22, vR b_27, vR b_32, vR b37, vR b47, vR vv, vR ob, vR (own_stp cw p3)] [(.ref ob)])) rfl (by rw [hml]; rfl) (Steps.refl _) (argsL := []) (rest := []) (lenOf pd_15 rfl) rfl own_le0 (hb hby at_219) (fun _ _ => ⟨rfl, eq603, (by decide : 30 + 0 ≤ _), (by decide : 145 + 0 ≤ _)⟩)
            dsimp only [Pt.U, Pt.locs, Pt.cells, Pt.slots] at X608 l608 y608 z608 st608 hQ608
            subst l608 y608 z608
            obtain ⟨rfl, Nq608, eq608⟩ := hQ608
            have N610 := Fr.app N604 Nq608
            have q611 := fun t (kt : Go p e below T608 (mkF m 227 #[vI p1, vI p2, vI p3, vI p4, vI p5, vI ((p1 &&& (2147483647 : Int32)) % (4 : Int32)), vR b_22, vR b_27, vR b_32, vR b37, vR b47, vR vv, vR ob, vR (own_stp cw p3)] [(.ref ob)]) t) => q607 t (st608.trans (by
              show Go _ _ _ _ (mkF m 222 #[vI p1, vI p2, vI p3, vI p4, vI p5, vI ((p1 &&& (2147483647 : Int32)) % (4 : Int32)), vR b_22, vR b_27, vR b_32, vR b37, vR b47, vR vv, vR ob, vR (own_stp cw p3)] [(.int 1)]) _
              refine XS.ifNo X608.here hx rfl (hb hby at_222) rfl ((if0 _ _).trans (feq (by decide : ¬ ((1 : Int32) = (0 : Int32)))).1) ?_
              show Go _ _ _ _ (mkF m 225 _ []) _
              refine XS.aload X608.here hx rfl (hb hby at_225) rfl rfl ?_
              exact kt))
            obtain ⟨cq613, kq613, q613a, q613b, q613c⟩ := isOf hZ eq608 mf448_0
            obtain ⟨_, _, ⟨T612, L612, k612, n612⟩, -, X612, ⟨_, hQ612, l612, y612, z612⟩, st612⟩ := X608.virtualBack hx (y := ym53) (z := ym53) hown (ow hZ hw 363 rfl) (ow hZ hw 364 rfl) (notFace_of_selects (args := #[]) (ow hZ hw 366 rfl)) (ow hZ hw 366 rfl) (ow hZ hw 365 rfl) (by decide) (backOf (W := 0) (rm49 l Z a0 hw [] cx ob (own_stp cw p3) h448 n0 O448 f605) hZ (ox hw 367 rfl) (ox hw 166 rfl) (by decide) (by decide)) q613a q613c (g := (mkF m 227 #[vI p1, vI p2, vI p3, vI p4, vI p5, vI ((p1 &&& (2147483647 : Int32)) % (4 : Int32)), vR b_22, vR b_27, vR b_32, vR b37, vR b47, vR vv, vR ob, vR (own_stp cw p3)] [(.ref ob)])) rfl (by rw [hml]; rfl) (Steps.refl _) (argsL := []) (rest := []) (lenOf pd_26 rfl) rfl own_le0 (hb hby at_227) (fun _ _ => ⟨rfl, eq608, (by decide : 30 + 0 ≤ _), (by decide : 145 + 0 ≤ _)⟩)
            dsimp only [Pt.U, Pt.locs, Pt.cells, Pt.slots] at X612 l612 y612 z612 st612 hQ612
            subst l612 y612 z612
            obtain ⟨rfl, Nq612, eq612⟩ := hQ612
            have N614 := Fr.app N610 Nq612
            have q615 := fun t (kt : Go p e below T612 (mkF m 240 #[vI p1, vI p2, vI p3, vI p4, vI p5, vI ((p1 &&& (2147483647 : Int32)) % (4 : Int32)), vR b_22, vR b_27, vR b_32, vR b37, vR b47, vR vv, vR ob, vR (own_stp cw p3)] [(.int 1)]) t) => q611 t (st612.trans (by
              show Go _ _ _ _ (mkF m 230 #[vI p1, vI p2, vI p3, vI p4, vI p5, vI ((p1 &&& (2147483647 : Int32)) % (4 : Int32)), vR b_22, vR b_27, vR b_32, vR b37, vR b47, vR vv, vR ob, vR (own_stp cw p3)] [(.ref (own_stp cw p3))]) _
              refine XS.aload X612.here hx rfl (hb hby at_230) rfl rfl ?_
              show Go _ _ _ _ (mkF m 232 _ [(.ref (own_stp cw p3)), (.ref (own_stp cw p3))]) _
              refine Jvm.RoadKit.acmp (g := (mkF m 232 #[vI p1, vI p2, vI p3, vI p4, vI p5, vI ((p1 &&& (2147483647 : Int32)) % (4 : Int32)), vR b_22, vR b_27, vR b_32, vR b37, vR b47, vR vv, vR ob, vR (own_stp cw p3)] [(.ref (own_stp cw p3)), (.ref (own_stp cw p3))])) X612 hx rfl rfl rfl (pc0 := 232) (pc' := 235) (same := true) rfl (hb hby at_232) rfl (decide_eq_true rfl) (by decide) (by decide) ?_
              show Go _ _ _ _ (mkF m 235 _ []) _
              refine XS.iconst X612.here hx rfl (hb hby at_235) ?_
              show Go _ _ _ _ (mkF m 236 _ [(.int 1)]) _
              refine XS.goto X612.here hx rfl (pc0 := 236) (pc' := 240) rfl (hb hby at_236) (by decide) (by decide) ?_
              exact kt))
            obtain ⟨fs, hr, hrun, hended, hRE⟩ := X612.leaveW hS32 (by rw [eq612]; exact hk448) (v := some (.int 1)) (fun h => by rw [Bd.returns] at h; cases h)
            refine ⟨_, _, q615 _ ?_, hrun, hended, _, _, rfl, ?_, hRE.1, hRE.2.1, hRE.2.2.1, hRE.2.2.2.mono (by decide) (by decide)⟩
            · show Go p e below T612 (mkF m 240 #[vI p1, vI p2, vI p3, vI p4, vI p5, vI ((p1 &&& (2147483647 : Int32)) % (4 : Int32)), vR b_22, vR b_27, vR b_32, vR b37, vR b47, vR vv, vR ob, vR (own_stp cw p3)] [(.int 1)]) _
              exact retN X612 hx (t := .boolean) Bd.returns (by simp) (hb hby at_240) hr
            · show Q_rm0 Z p1 p2 p3 p4 p5 cw z_cs h0 n0 _ T612.heap _
              rw [eq612]
              exact ⟨rfl, N614⟩
          · have q616 := fun t (kt : Go p e below T599 (mkF m 191 #[vI p1, vI p2, vI p3, vI p4, vI p5, vI ((p1 &&& (2147483647 : Int32)) % (4 : Int32)), vR b_22, vR b_27, vR b_32, vR b37, vR b47, vR vv, vR ob, vN] [(.int p4)]) t) => q600 t (by
              show Go _ _ _ _ (mkF m 172 #[vI p1, vI p2, vI p3, vI p4, vI p5, vI ((p1 &&& (2147483647 : Int32)) % (4 : Int32)), vR b_22, vR b_27, vR b_32, vR b37, vR b47, vR vv, vR ob, vN] [(.ref (cw 1)), (.ref (own_sts cw p3))]) _
              refine Jvm.RoadKit.acmp (g := (mkF m 172 #[vI p1, vI p2, vI p3, vI p4, vI p5, vI ((p1 &&& (2147483647 : Int32)) % (4 : Int32)), vR b_22, vR b_27, vR b_32, vR b37, vR b47, vR vv, vR ob, vN] [(.ref (cw 1)), (.ref (own_sts cw p3))])) X599 hx rfl rfl rfl (pc0 := 172) (pc' := 184) (same := false) rfl (hb hby at_172) rfl (decide_eq_false (fun q => hc601 (Value.ref.inj q))) (by decide) (by decide) ?_
              show Go _ _ _ _ (mkF m 184 _ []) _
              refine XS.iload X599.here hx rfl (hb hby at_184) rfl ?_
              show Go _ _ _ _ (mkF m 186 _ [(.int ((p1 &&& (2147483647 : Int32)) % (4 : Int32)))]) _
              refine XS.iconst X599.here hx rfl (hb hby at_186) ?_
              show Go _ _ _ _ (mkF m 187 _ [(.int 3), (.int ((p1 &&& (2147483647 : Int32)) % (4 : Int32)))]) _
              refine XS.icmpNo X599.here hx rfl (hb hby at_187) rfl (flt hc280).1 ?_
              show Go _ _ _ _ (mkF m 190 _ []) _
              refine XS.iloadN X599.here hx rfl (hb hby at_190) rfl ?_
              exact kt)
            obtain ⟨_, _, ⟨T617, L617, k617, n617⟩, -, X617, ⟨_, hQ617, l617, y617, z617⟩, st617⟩ := Jvm.LawKit.callS X599 hx (y := ym5) hown (ow hZ hw 5 rfl) (ow hZ hw 6 rfl) (ow hZ hw 3 rfl) (ow hZ hw 7 rfl) (by decide) (backOf (W := 0) (rm2 l Z a0 hw [] cx p4 h448 n0 O448 ) hZ (ox hw 7 rfl) (ox hw 3 rfl) (by decide) (by decide)) (g := (mkF m 191 #[vI p1, vI p2, vI p3, vI p4, vI p5, vI ((p1 &&& (2147483647 : Int32)) % (4 : Int32)), vR b_22, vR b_27, vR b_32, vR b37, vR b47, vR vv, vR ob, vN] [(.int p4)])) rfl (by rw [hml]; rfl) (argsL := [(.int p4)]) (rest := []) (lenOf pd_1 rfl) rfl own_le0 (hb hby at_191) (fun _ _ => ⟨rfl, e599, (by decide : 30 + 0 ≤ _), (by decide : 145 + 0 ≤ _)⟩)
            dsimp only [Pt.U, Pt.locs, Pt.cells, Pt.slots] at X617 l617 y617 z617 st617 hQ617
            subst l617 y617 z617
            obtain ⟨rfl, Nq617, eq617⟩ := hQ617
            have N618 := Fr.app N598 Nq617
            obtain ⟨T619, X619, e619, st619⟩ := getS2 X617 hx hZ hown (host := "") (Or.inl (ox hw 19 rfl)) Via.refl eq617 (cx.2.2.1.ext O448.2) (g := (mkF m 194 #[vI p1, vI p2, vI p3, vI p4, vI p5, vI ((p1 &&& (2147483647 : Int32)) % (4 : Int32)), vR b_22, vR b_27, vR b_32, vR b37, vR b47, vR vv, vR ob, vN] [(.ref (own_sts cw p4))])) rfl (hb hby at_194)
            have q620 := fun t (kt : Go p e below T619 (mkF m 197 #[vI p1, vI p2, vI p3, vI p4, vI p5, vI ((p1 &&& (2147483647 : Int32)) % (4 : Int32)), vR b_22, vR b_27, vR b_32, vR b37, vR b47, vR vv, vR ob, vN] [(.ref (cw 1)), (.ref (own_sts cw p4))]) t) => q616 t (st617 t (st619 t kt))
            by_cases hc621 : (own_sts cw p4) = (cw 1)
            · have q622 := fun t (kt : Go p e below T619 (mkF m 201 #[vI p1, vI p2, vI p3, vI p4, vI p5, vI ((p1 &&& (2147483647 : Int32)) % (4 : Int32)), vR b_22, vR b_27, vR b_32, vR b37, vR b47, vR vv, vR ob, vN] [(.int p4)]) t) => q620 t (by
                show Go _ _ _ _ (mkF m 197 #[vI p1, vI p2, vI p3, vI p4, vI p5, vI ((p1 &&& (2147483647 : Int32)) % (4 : Int32)), vR b_22, vR b_27, vR b_32, vR b37, vR b47, vR vv, vR ob, vN] [(.ref (cw 1)), (.ref (own_sts cw p4))]) _
                refine Jvm.RoadKit.acmp (g := (mkF m 197 #[vI p1, vI p2, vI p3, vI p4, vI p5, vI ((p1 &&& (2147483647 : Int32)) % (4 : Int32)), vR b_22, vR b_27, vR b_32, vR b37, vR b47, vR vv, vR ob, vN] [(.ref (cw 1)), (.ref (own_sts cw p4))])) X619 hx rfl rfl rfl (pc0 := 197) (pc' := 200) (same := true) rfl (hb hby at_197) rfl (decide_eq_true (congrArg Value.ref hc621)) (by decide) (by decide) ?_
                show Go _ _ _ _ (mkF m 200 _ []) _
                refine XS.iloadN X619.here hx rfl (hb hby at_200) rfl ?_
                exact kt)
              obtain ⟨_, _, ⟨T623, L623, k623, n623⟩, -, X623, ⟨_, hQ623, l623, y623, z623⟩, st623⟩ := Jvm.LawKit.callS X619 hx (y := ym6) hown (ow hZ hw 24 rfl) (ow hZ hw 25 rfl) (ow hZ hw 3 rfl) (ow hZ hw 26 rfl) (by decide) (backOf (W := 0) (rm3 l Z a0 hw [] cx p4 h448 n0 O448 ) hZ (ox hw 26 rfl) (ox hw 3 rfl) (by decide) (by decide)) (g := (mkF m 201 #[vI p1, vI p2, vI p3, vI p4, vI p5, vI ((p1 &&& (2147483647 : Int32)) % (4 : Int32)), vR b_22, vR b_27, vR b_32, vR b37, vR b47, vR vv, vR ob, vN] [(.int p4)])) rfl (by rw [hml]; rfl) (argsL := [(.int p4)]) (rest := []) (lenOf pd_2 rfl) rfl own_le0 (hb hby at_201) (fun _ _ => ⟨rfl, e619, (by decide : 30 + 0 ≤ _), (by decide : 145 + 0 ≤ _)⟩)
              dsimp only [Pt.U, Pt.locs, Pt.cells, Pt.slots] at X623 l623 y623 z623 st623 hQ623
              subst l623 y623 z623
              obtain ⟨rfl, Nq623, eq623⟩ := hQ623
              have N624 := Fr.app N618 Nq623
              have q626 := fun t (kt : Go p e below T623 (mkF m 206 #[vI p1, vI p2, vI p3, vI p4, vI p5, vI ((p1 &&& (2147483647 : Int32)) % (4 : Int32)), vR b_22, vR b_27, vR b_32, vR b37, vR b47, vR vv, vR ob, vR (own_stp cw p4)] []) t) => q622 t (st623 t (by
                show Go _ _ _ _ (mkF m 204 #[vI p1, vI p2, vI p3, vI p4, vI p5, vI ((p1 &&& (2147483647 : Int32)) % (4 : Int32)), vR b_22, vR b_27, vR b_32, vR b37, vR b47, vR vv, vR ob, vN] [(.ref (own_stp cw p4))]) _
                refine XS.astore X623.here hx rfl (hb hby at_204) rfl rfl (l' := #[vI p1, vI p2, vI p3, vI p4, vI p5, vI ((p1 &&& (2147483647 : Int32)) % (4 : Int32)), vR b_22, vR b_27, vR b_32, vR b37, vR b47, vR vv, vR ob, vR (own_stp cw p4)]) rfl ?_
                exact kt))
              have f625 : Fld Z h448 ob sk24 "value" sk3 (.ref (own_stp cw p4)) := by
                have z := mf448_1
                rw [show (own_find (cw 1) [((own_sts cw p2), (own_stp cw p2)), ((own_sts cw p3), (own_stp cw p3)), ((own_sts cw p4), (own_stp cw p4))]) = (.ref (own_stp cw p4)) from by simp [own_find, hc57, hc150, hc280, hc581, hc601, hc621]] at z
                exact z
              have q627 := fun t (kt : Go p e below T623 (mkF m 219 #[vI p1, vI p2, vI p3, vI p4, vI p5, vI ((p1 &&& (2147483647 : Int32)) % (4 : Int32)), vR b_22, vR b_27, vR b_32, vR b37, vR b47, vR vv, vR ob, vR (own_stp cw p4)] [(.ref ob)]) t) => q626 t (by
                show Go _ _ _ _ (mkF m 206 #[vI p1, vI p2, vI p3, vI p4, vI p5, vI ((p1 &&& (2147483647 : Int32)) % (4 : Int32)), vR b_22, vR b_27, vR b_32, vR b37, vR b47, vR vv, vR ob, vR (own_stp cw p4)] []) _
                refine XS.aload X623.here hx rfl (hb hby at_206) rfl rfl ?_
                show Go _ _ _ _ (mkF m 208 _ [(.ref (own_stp cw p4))]) _
                refine XS.ifnonnullYes X623.here hx rfl (pc0 := 208) (pc' := 217) rfl (hb hby at_208) rfl (by decide) (by decide) ?_
                show Go _ _ _ _ (mkF m 217 _ []) _
                refine XS.aload X623.here hx rfl (hb hby at_217) rfl rfl ?_
                exact kt)
              obtain ⟨cq629, kq629, q629a, q629b, q629c⟩ := isOf hZ eq623 mf448_0
              obtain ⟨_, _, ⟨T628, L628, k628, n628⟩, -, X628, ⟨_, hQ628, l628, y628, z628⟩, st628⟩ := X623.virtualBack hx (y := ym52) (z := ym52) hown (ow hZ hw 358 rfl) (ow hZ hw 359 rfl) (notFace_of_selects (args := #[]) (ow hZ hw 361 rfl)) (ow hZ hw 361 rfl) (ow hZ hw 360 rfl) (by decide) (backOf (W := 0) (rm48 l Z a0 hw [] cx ob (own_stp cw p4) h448 n0 O448 f625) hZ (ox hw 362 rfl) (ox hw 166 rfl) (by decide) (by decide)) q629a q629c (g := (mkF m 219 #[vI p1, vI p2, vI p3, vI p4, vI p5, vI ((p1 &&& (2147483647 : Int32)) % (4 : Int32)), vR b_22, vR b_27, vR b_32, vR b37, vR b47, vR vv, vR ob, vR (own_stp cw p4)] [(.ref ob)])) rfl (by rw [hml]; rfl) (Steps.refl _) (argsL := []) (rest := []) (lenOf pd_15 rfl) rfl own_le0 (hb hby at_219) (fun _ _ => ⟨rfl, eq623, (by decide : 30 + 0 ≤ _), (by decide : 145 + 0 ≤ _)⟩)
              dsimp only [Pt.U, Pt.locs, Pt.cells, Pt.slots] at X628 l628 y628 z628 st628 hQ628
              subst l628 y628 z628
              obtain ⟨rfl, Nq628, eq628⟩ := hQ628
              have N630 := Fr.app N624 Nq628
              have q631 := fun t (kt : Go p e below T628 (mkF m 227 #[vI p1, vI p2, vI p3, vI p4, vI p5, vI ((p1 &&& (2147483647 : Int32)) % (4 : Int32)), vR b_22, vR b_27, vR b_32, vR b37, vR b47, vR vv, vR ob, vR (own_stp cw p4)] [(.ref ob)]) t) => q627 t (st628.trans (by
                show Go _ _ _ _ (mkF m 222 #[vI p1, vI p2, vI p3, vI p4, vI p5, vI ((p1 &&& (2147483647 : Int32)) % (4 : Int32)), vR b_22, vR b_27, vR b_32, vR b37, vR b47, vR vv, vR ob, vR (own_stp cw p4)] [(.int 1)]) _
                refine XS.ifNo X628.here hx rfl (hb hby at_222) rfl ((if0 _ _).trans (feq (by decide : ¬ ((1 : Int32) = (0 : Int32)))).1) ?_
                show Go _ _ _ _ (mkF m 225 _ []) _
                refine XS.aload X628.here hx rfl (hb hby at_225) rfl rfl ?_
                exact kt))
              obtain ⟨cq633, kq633, q633a, q633b, q633c⟩ := isOf hZ eq628 mf448_0
              obtain ⟨_, _, ⟨T632, L632, k632, n632⟩, -, X632, ⟨_, hQ632, l632, y632, z632⟩, st632⟩ := X628.virtualBack hx (y := ym53) (z := ym53) hown (ow hZ hw 363 rfl) (ow hZ hw 364 rfl) (notFace_of_selects (args := #[]) (ow hZ hw 366 rfl)) (ow hZ hw 366 rfl) (ow hZ hw 365 rfl) (by decide) (backOf (W := 0) (rm49 l Z a0 hw [] cx ob (own_stp cw p4) h448 n0 O448 f625) hZ (ox hw 367 rfl) (ox hw 166 rfl) (by decide) (by decide)) q633a q633c (g := (mkF m 227 #[vI p1, vI p2, vI p3, vI p4, vI p5, vI ((p1 &&& (2147483647 : Int32)) % (4 : Int32)), vR b_22, vR b_27, vR b_32, vR b37, vR b47, vR vv, vR ob, vR (own_stp cw p4)] [(.ref ob)])) rfl (by rw [hml]; rfl) (Steps.refl _) (argsL := []) (rest := []) (lenOf pd_26 rfl) rfl own_le0 (hb hby at_227) (fun _ _ => ⟨rfl, eq628, (by decide : 30 + 0 ≤ _), (by decide : 145 + 0 ≤ _)⟩)
              dsimp only [Pt.U, Pt.locs, Pt.cells, Pt.slots] at X632 l632 y632 z632 st632 hQ632
              subst l632 y632 z632
              obtain ⟨rfl, Nq632, eq632⟩ := hQ632
              have N634 := Fr.app N630 Nq632
              have q635 := fun t (kt : Go p e below T632 (mkF m 240 #[vI p1, vI p2, vI p3, vI p4, vI p5, vI ((p1 &&& (2147483647 : Int32)) % (4 : Int32)), vR b_22, vR b_27, vR b_32, vR b37, vR b47, vR vv, vR ob, vR (own_stp cw p4)] [(.int 1)]) t) => q631 t (st632.trans (by
                show Go _ _ _ _ (mkF m 230 #[vI p1, vI p2, vI p3, vI p4, vI p5, vI ((p1 &&& (2147483647 : Int32)) % (4 : Int32)), vR b_22, vR b_27, vR b_32, vR b37, vR b47, vR vv, vR ob, vR (own_stp cw p4)] [(.ref (own_stp cw p4))]) _
                refine XS.aload X632.here hx rfl (hb hby at_230) rfl rfl ?_
                show Go _ _ _ _ (mkF m 232 _ [(.ref (own_stp cw p4)), (.ref (own_stp cw p4))]) _
                refine Jvm.RoadKit.acmp (g := (mkF m 232 #[vI p1, vI p2, vI p3, vI p4, vI p5, vI ((p1 &&& (2147483647 : Int32)) % (4 : Int32)), vR b_22, vR b_27, vR b_32, vR b37, vR b47, vR vv, vR ob, vR (own_stp cw p4)] [(.ref (own_stp cw p4)), (.ref (own_stp cw p4))])) X632 hx rfl rfl rfl (pc0 := 232) (pc' := 235) (same := true) rfl (hb hby at_232) rfl (decide_eq_true rfl) (by decide) (by decide) ?_
                show Go _ _ _ _ (mkF m 235 _ []) _
                refine XS.iconst X632.here hx rfl (hb hby at_235) ?_
                show Go _ _ _ _ (mkF m 236 _ [(.int 1)]) _
                refine XS.goto X632.here hx rfl (pc0 := 236) (pc' := 240) rfl (hb hby at_236) (by decide) (by decide) ?_
                exact kt))
              obtain ⟨fs, hr, hrun, hended, hRE⟩ := X632.leaveW hS32 (by rw [eq632]; exact hk448) (v := some (.int 1)) (fun h => by rw [Bd.returns] at h; cases h)
              refine ⟨_, _, q635 _ ?_, hrun, hended, _, _, rfl, ?_, hRE.1, hRE.2.1, hRE.2.2.1, hRE.2.2.2.mono (by decide) (by decide)⟩
              · show Go p e below T632 (mkF m 240 #[vI p1, vI p2, vI p3, vI p4, vI p5, vI ((p1 &&& (2147483647 : Int32)) % (4 : Int32)), vR b_22, vR b_27, vR b_32, vR b37, vR b47, vR vv, vR ob, vR (own_stp cw p4)] [(.int 1)]) _
                exact retN X632 hx (t := .boolean) Bd.returns (by simp) (hb hby at_240) hr
              · show Q_rm0 Z p1 p2 p3 p4 p5 cw z_cs h0 n0 _ T632.heap _
                rw [eq632]
                exact ⟨rfl, N634⟩
            · have q637 := fun t (kt : Go p e below T619 (mkF m 206 #[vI p1, vI p2, vI p3, vI p4, vI p5, vI ((p1 &&& (2147483647 : Int32)) % (4 : Int32)), vR b_22, vR b_27, vR b_32, vR b37, vR b47, vR vv, vR ob, vN] []) t) => q620 t (by
                show Go _ _ _ _ (mkF m 197 #[vI p1, vI p2, vI p3, vI p4, vI p5, vI ((p1 &&& (2147483647 : Int32)) % (4 : Int32)), vR b_22, vR b_27, vR b_32, vR b37, vR b47, vR vv, vR ob, vN] [(.ref (cw 1)), (.ref (own_sts cw p4))]) _
                refine Jvm.RoadKit.acmp (g := (mkF m 197 #[vI p1, vI p2, vI p3, vI p4, vI p5, vI ((p1 &&& (2147483647 : Int32)) % (4 : Int32)), vR b_22, vR b_27, vR b_32, vR b37, vR b47, vR vv, vR ob, vN] [(.ref (cw 1)), (.ref (own_sts cw p4))])) X619 hx rfl rfl rfl (pc0 := 197) (pc' := 206) (same := false) rfl (hb hby at_197) rfl (decide_eq_false (fun q => hc621 (Value.ref.inj q))) (by decide) (by decide) ?_
                exact kt)
              have f636 : Fld Z h448 ob sk24 "value" sk3 .null := by
                have z := mf448_1
                rw [show (own_find (cw 1) [((own_sts cw p2), (own_stp cw p2)), ((own_sts cw p3), (own_stp cw p3)), ((own_sts cw p4), (own_stp cw p4))]) = .null from by simp [own_find, hc57, hc150, hc280, hc581, hc601, hc621]] at z
                exact z
              have q638 := fun t (kt : Go p e below T619 (mkF m 213 #[vI p1, vI p2, vI p3, vI p4, vI p5, vI ((p1 &&& (2147483647 : Int32)) % (4 : Int32)), vR b_22, vR b_27, vR b_32, vR b37, vR b47, vR vv, vR ob, vN] [(.ref ob)]) t) => q637 t (by
                show Go _ _ _ _ (mkF m 206 #[vI p1, vI p2, vI p3, vI p4, vI p5, vI ((p1 &&& (2147483647 : Int32)) % (4 : Int32)), vR b_22, vR b_27, vR b_32, vR b37, vR b47, vR vv, vR ob, vN] []) _
                refine XS.aload X619.here hx rfl (hb hby at_206) rfl rfl ?_
                show Go _ _ _ _ (mkF m 208 _ [.null]) _
                refine XS.ifnonnullNo X619.here hx rfl (hb hby at_208) rfl ?_
                show Go _ _ _ _ (mkF m 211 _ []) _
                refine XS.aload X619.here hx rfl (hb hby at_211) rfl rfl ?_
                exact kt)
              obtain ⟨cq640, kq640, q640a, q640b, q640c⟩ := isOf hZ e619 mf448_0
              obtain ⟨_, _, ⟨T639, L639, k639, n639⟩, -, X639, ⟨_, hQ639, l639, y639, z639⟩, st639⟩ := X619.virtualBack hx (y := ym51) (z := ym51) hown (ow hZ hw 169 rfl) (ow hZ hw 170 rfl) (notFace_of_selects (args := #[]) (ow hZ hw 172 rfl)) (ow hZ hw 172 rfl) (ow hZ hw 171 rfl) (by decide) (backOf (W := 0) (rm21 l Z a0 hw [] cx ob h448 n0 O448 f636) hZ (ox hw 173 rfl) (ox hw 166 rfl) (by decide) (by decide)) q640a q640c (g := (mkF m 213 #[vI p1, vI p2, vI p3, vI p4, vI p5, vI ((p1 &&& (2147483647 : Int32)) % (4 : Int32)), vR b_22, vR b_27, vR b_32, vR b37, vR b47, vR vv, vR ob, vN] [(.ref ob)])) rfl (by rw [hml]; rfl) (Steps.refl _) (argsL := []) (rest := []) (lenOf pd_15 rfl) rfl own_le0 (hb hby at_213) (fun _ _ => ⟨rfl, e619, (by decide : 30 + 0 ≤ _), (by decide : 145 + 0 ≤ _)⟩)
              dsimp only [Pt.U, Pt.locs, Pt.cells, Pt.slots] at X639 l639 y639 z639 st639 hQ639
              subst l639 y639 z639
              obtain ⟨rfl, Nq639, eq639⟩ := hQ639
              have N641 := Fr.app N618 Nq639
              have q642 := fun t (kt : Go p e below T639 (mkF m 216 #[vI p1, vI p2, vI p3, vI p4, vI p5, vI ((p1 &&& (2147483647 : Int32)) % (4 : Int32)), vR b_22, vR b_27, vR b_32, vR b37, vR b47, vR vv, vR ob, vN] [(.int 1)]) t) => q638 t (st639.trans kt)
              obtain ⟨fs, hr, hrun, hended, hRE⟩ := X639.leaveW hS32 (by rw [eq639]; exact hk448) (v := some (.int 1)) (fun h => by rw [Bd.returns] at h; cases h)
              refine ⟨_, _, q642 _ ?_, hrun, hended, _, _, rfl, ?_, hRE.1, hRE.2.1, hRE.2.2.1, hRE.2.2.2.mono (by decide) (by decide)⟩
              · show Go p e below T639 (mkF m 216 #[vI p1, vI p2, vI p3, vI p4, vI p5, vI ((p1 &&& (2147483647 : Int32)) % (4 : Int32)), vR b_22, vR b_27, vR b_32, vR b37, vR b47, vR vv, vR ob, vN] [(.int 1)]) _
                exact retN X639 hx (t := .boolean) Bd.returns (by simp) (hb hby at_216) hr
              · show Q_rm0 Z p1 p2 p3 p4 p5 cw z_cs h0 n0 _ T639.heap _
                rw [eq639]
                exact ⟨rfl, N641⟩
theorem comes_1 {Post : Tables → Env → Array Value → State → Outcome → State → Prop} (hpost : ∀ tb e args s v u, (limb_1_1.after args s (.returned v) u = true ∧ limb_1_2.after args s (.returned v) u = true ∧ True) → ReturnedEndW s (.returned v) u (Jvm.fieldLocs frame_1_writes args s ++ Jvm.arrayLocs frame_1_arrays args s ++ Jvm.staticLocs frame_1_statics s) 48 2240 → Post tb e args s (.returned v) u) :
    ArmFor flags0 classFile x code maxLocals ret World_1 tables_1 room_1 Calls_1 rest_1 Pre_1 Post := by
  intro l hfl _ _ p e ha hc hk s m args below hf hA hF happ hP
  obtain ⟨hcalls, hrest, hpre⟩ := hP
  obtain ⟨-, -, -, hnamed, -, -, -, hat⟩ := (Spec.applies_iff hf).mp happ
  obtain ⟨hg, hn⟩ := and_e (Cond.before_iff.mp (show (Jvm.Cond.and given_1 narrow_1).before args s = true from hpre))
  obtain ⟨gg1, gg2⟩ := and_e hg
  obtain ⟨gg3, gg4⟩ := and_e gg2
  obtain ⟨gg5, gg6⟩ := and_e gg4
  obtain ⟨gg7, gg8⟩ := and_e gg6
  obtain ⟨gg9, gg10⟩ := and_e gg8
  obtain ⟨w0, w1, w2, w3, w4, rfl⟩ : ∃ w0 w1 w2 w3 w4 : Value, args = #[w0, w1, w2, w3, w4] := by
    have hs : args.size = 5 := by simpa [Cond.value, given_1] using gg1
    obtain ⟨L⟩ := args
    match L, hs with
    | [w0, w1, w2, w3, w4], _ => exact ⟨w0, w1, w2, w3, w4, rfl⟩
  have hw := fun d (hd : d ∈ tables_1) => atoms_spec (ws := Jvm.Cond.code x code maxLocals ret :: tables_1) hat d (List.mem_cons_of_mem _ hd)
  have hfit : Fit s := fun {y c} hc i hi => by
    obtain ⟨ha, rfl⟩ := Array.getElem?_eq_some_iff.mp hc
    have q := List.all_eq_true.mp ((Array.all_eq_true_iff_forall_mem.mp hF) _ (Array.getElem_mem ha)) i (List.mem_range.mpr hi)
    simpa [Array.getElem?_eq_getElem hi] using q
  obtain ⟨hsets, hown0⟩ := atoms_of _ (rest_1_c_eq ▸ (show rest_1_c.before _ s = true from hrest))
  have hr0 := Cond.before_iff.mp hown0
  obtain ⟨i0, ei0⟩ := is_v gg3
  obtain rfl : w0 = (.int i0) := Option.some.inj ei0
  obtain ⟨i1, ei1⟩ := is_v gg5
  obtain rfl : w1 = (.int i1) := Option.some.inj ei1
  obtain ⟨i2, ei2⟩ := is_v gg7
  obtain rfl : w2 = (.int i2) := Option.some.inj ei2
  obtain ⟨i3, ei3⟩ := is_v gg9
  obtain rfl : w3 = (.int i3) := Option.some.inj ei3
  obtain ⟨i4, ei4⟩ := is_v gg10
  obtain rfl : w4 = (.int i4) := Option.some.inj ei4
  obtain ⟨nn1, nn2⟩ := and_e hn
  obtain ⟨nn3, nn4⟩ := and_e nn2
  obtain ⟨nn5, nn6⟩ := and_e nn4
  obtain ⟨nn7, nn8⟩ := and_e nn6
  obtain ⟨nn9, nn10⟩ := and_e nn8
  obtain ⟨nn11, nn12⟩ := and_e nn10
  obtain ⟨nn13, nn14⟩ := and_e nn12
  obtain ⟨nn15, nn16⟩ := and_e nn14
  obtain ⟨nn17, nn18⟩ := and_e nn16
  obtain ⟨nn19, nn20⟩ := and_e nn18
  obtain ⟨nn21, nn22⟩ := and_e nn20
  obtain ⟨nn23, nn24⟩ := and_e nn22
  obtain ⟨nn25, nn26⟩ := and_e nn24
  obtain ⟨nn27, nn28⟩ := and_e nn26
  obtain ⟨nn29, nn30⟩ := and_e nn28
  obtain ⟨w_OK, ev_w_OK⟩ := exa_v nn1
  obtain ⟨w_FAILED, ev_w_FAILED⟩ := exa_v nn3
  obtain ⟨w_INTEGRITY, ev_w_INTEGRITY⟩ := exa_v nn9
  obtain ⟨w_SIGNATURE, ev_w_SIGNATURE⟩ := exa_v nn11
  obtain ⟨w_KEY_HASH, ev_w_KEY_HASH⟩ := exa_v nn13
  obtain ⟨w_SECURITY_HASH, ev_w_SECURITY_HASH⟩ := exa_v nn15
  obtain ⟨w_SKIPPED, ev_w_SKIPPED⟩ := exa_v nn17
  obtain ⟨w_STRUCTURE, ev_w_STRUCTURE⟩ := exa_v nn21
  obtain ⟨w_PM_HASH, ev_w_PM_HASH⟩ := exa_v nn23
  obtain ⟨w_RM_HASH, ev_w_RM_HASH⟩ := exa_v nn25
  obtain ⟨w_RANDOM_STRING, ev_w_RANDOM_STRING⟩ := exa_v nn27
  obtain ⟨w_DECRYPTION, ev_w_DECRYPTION⟩ := exa_v nn29
  obtain ⟨w_CORE_HASH, ev_w_CORE_HASH⟩ := exa_v nn30
  obtain ⟨w_DC, ev_DC⟩ := arr_v (Cond.before_iff.mp (hsets _ (List.mem_of_getElem? (i := 6) rfl)))
  obtain ⟨cl_DC, Ar_DC⟩ := Arr.start ev_DC (Cond.before_iff.mp (hsets _ (List.mem_of_getElem? (i := 6) rfl)))
  have ln_DC := own_lenI ev_DC Ar_DC (Cond.before_iff.mp (hsets _ (List.mem_of_getElem? (i := 8) rfl)))
  have V_DC : Arv s s.heap w_DC cl_DC.cls (.object "java/lang/Object") (0 : Int32) [] .null := Arv.start hfit Ar_DC ln_DC.1 ln_DC.2 (by decide) rfl trivial
  generalize hk_DC : cl_DC.cls = k_DC at V_DC
  obtain ⟨w_EL, ev_EL⟩ := exa_v (Cond.before_iff.mp (hsets _ (List.mem_of_getElem? (i := 11) rfl)))
  obtain ⟨w_EA, ev_EA⟩ := arr_v (Cond.before_iff.mp (hsets _ (List.mem_of_getElem? (i := 12) rfl)))
  obtain ⟨cl_EA, Ar_EA⟩ := Arr.start ev_EA (Cond.before_iff.mp (hsets _ (List.mem_of_getElem? (i := 12) rfl)))
  have ln_EA := own_lenI ev_EA Ar_EA (Cond.before_iff.mp (hsets _ (List.mem_of_getElem? (i := 14) rfl)))
  have V_EA : Arv s s.heap w_EA cl_EA.cls (.object "java/lang/Object") (0 : Int32) [] .null := Arv.start hfit Ar_EA ln_EA.1 ln_EA.2 (by decide) rfl trivial
  generalize hk_EA : cl_EA.cls = k_EA at V_EA
  obtain ⟨w_OE, ev_OE⟩ := exa_v (Cond.before_iff.mp (hsets _ (List.mem_of_getElem? (i := 18) rfl)))
  have nz_cs := not_v (Cond.before_iff.mp (hsets _ (List.mem_of_getElem? (i := 22) rfl)))
  obtain ⟨z_cs, ev_cs⟩ := is_v (Cond.before_iff.mp (hsets _ (List.mem_of_getElem? (i := 21) rfl)))
  obtain ⟨w_EM, ev_EM⟩ := exa_v (Cond.before_iff.mp (hsets _ (List.mem_of_getElem? (i := 31) rfl)))
  obtain ⟨cM, kM, w_MR, hM1, hM2, hM3, -⟩ := hcalls.1
  have cx : Cx s (fun i => ([w_OK, w_FAILED, w_INTEGRITY, w_SIGNATURE, w_KEY_HASH, w_SECURITY_HASH, w_SKIPPED, w_STRUCTURE, w_PM_HASH, w_RM_HASH, w_RANDOM_STRING, w_DECRYPTION, w_CORE_HASH, w_DC, k_DC, w_EL, w_EA, k_EA, w_OE, w_EM, w_MR] : List Nat).getD i 0) z_cs := ⟨(Sta.start ev_w_OK (Or.inr ⟨(own_w hw 9 rfl), (own_w hw 10 rfl)⟩)), (Exa.start ev_w_OK nn1), (Sta.start ev_w_FAILED (Or.inr ⟨(own_w hw 9 rfl), (own_w hw 20 rfl)⟩)), (Exa.start ev_w_FAILED nn3), (Sta.start ev_w_INTEGRITY (Or.inr ⟨(own_w hw 28 rfl), (own_w hw 29 rfl)⟩)), (Exa.start ev_w_INTEGRITY nn9), (Sta.start ev_w_SIGNATURE (Or.inr ⟨(own_w hw 28 rfl), (own_w hw 48 rfl)⟩)), (Exa.start ev_w_SIGNATURE nn11), (Sta.start ev_w_KEY_HASH (Or.inr ⟨(own_w hw 28 rfl), (own_w hw 50 rfl)⟩)), (Exa.start ev_w_KEY_HASH nn13), (Sta.start ev_w_SECURITY_HASH (Or.inr ⟨(own_w hw 28 rfl), (own_w hw 177 rfl)⟩)), (Exa.start ev_w_SECURITY_HASH nn15), (Sta.start ev_w_SKIPPED (Or.inr ⟨(own_w hw 9 rfl), (own_w hw 179 rfl)⟩)), (Exa.start ev_w_SKIPPED nn17), (Sta.start ev_w_STRUCTURE (Or.inr ⟨(own_w hw 28 rfl), (own_w hw 181 rfl)⟩)), (Exa.start ev_w_STRUCTURE nn21), (Sta.start ev_w_PM_HASH (Or.inr ⟨(own_w hw 28 rfl), (own_w hw 183 rfl)⟩)), (Exa.start ev_w_PM_HASH nn23), (Sta.start ev_w_RM_HASH (Or.inr ⟨(own_w hw 28 rfl), (own_w hw 336 rfl)⟩)), (Exa.start ev_w_RM_HASH nn25), (Sta.start ev_w_RANDOM_STRING (Or.inr ⟨(own_w hw 28 rfl), (own_w hw 339 rfl)⟩)), (Exa.start ev_w_RANDOM_STRING nn27), (Sta.start ev_w_DECRYPTION (Or.inr ⟨(own_w hw 28 rfl), (own_w hw 341 rfl)⟩)), (Exa.start ev_w_DECRYPTION nn29), (Sta.start ev_w_CORE_HASH (Or.inr ⟨(own_w hw 28 rfl), (own_w hw 383 rfl)⟩)), (Exa.start ev_w_CORE_HASH nn30), (own_fldI ev_w_OK nn5), (own_fldI ev_w_FAILED nn7), (own_fldI ev_w_SKIPPED nn19), (Sta.start ev_DC (Or.inr ⟨(own_w hw 53 rfl), (hsets _ (List.mem_of_getElem? (i := 2) rfl))⟩)), V_DC, (Sta.start ev_EL (Or.inl (hsets _ (List.mem_of_getElem? (i := 10) rfl)))), (Exa.start ev_EL (Cond.before_iff.mp (hsets _ (List.mem_of_getElem? (i := 11) rfl)))), (Fld.start ((fld_at ev_EL).symm.trans ev_EA)), V_EA, (Sta.start ev_OE (Or.inl (hsets _ (List.mem_of_getElem? (i := 17) rfl)))), (Exa.start ev_OE (Cond.before_iff.mp (hsets _ (List.mem_of_getElem? (i := 18) rfl)))), (own_fldN ev_OE (Cond.before_iff.mp (hsets _ (List.mem_of_getElem? (i := 19) rfl)))), (Sta.start ev_cs (Or.inl (hsets _ (List.mem_of_getElem? (i := 20) rfl)))), (gotF (Cond.eq_ints ev_cs (Term.int_eval (0))) nz_cs), (Sta.start ev_EM (Or.inl (hsets _ (List.mem_of_getElem? (i := 30) rfl)))), (Exa.start ev_EM (Cond.before_iff.mp (hsets _ (List.mem_of_getElem? (i := 31) rfl)))), ⟨cM, kM, hM1, hM2, hM3⟩⟩
  obtain ⟨n, o, h1, h2, h3, _, L, rfl, ⟨rfl, N⟩, hq⟩ := rm0 l s _ hw tables_1 cx i0 i1 i2 i3 i4 s.heap s.heap.size (Old.start s)  p e ha hc hk s m _ below hf ((Spec.applies_iff_loose hf).mp happ).1 ⟨rfl, State.Warmed39.refl s, rfl⟩ trivial
  refine ⟨n, _, h1, h2, h3, hpost _ _ _ _ _ _ ⟨Cond.after_iff.mpr rfl, Cond.after_iff.mpr (eq_i res_at (Term.int_eval (1)) rfl), trivial⟩ ⟨hq.1, hq.2.1, hq.2.2.1, (hq.2.2.2.sift fun y hy => Or.inr (N y hy)).mono (by decide) (by decide)⟩⟩
theorem main_1_1 : Claimed_1_1 := comes_1 fun _ _ _ _ _ _ h hF => ⟨h.1, hF⟩
theorem main_1_2 : Claimed_1_2 := comes_1 fun _ _ _ _ _ _ h hF => ⟨h.2.1, hF⟩
end Jvm.Pilot.@@N@@
namespace Jvm.Pilot.@@N@@
open Jvm Jvm.ClassFile Sem Op Lib Jvm.Free Jvm.Stand Jvm.Pilot.@@N@@.Jvm.D
/-! MADE BY PROGRAM (witnessworld.py) out of the Statement's table words and the real class files: 45 classes; the members and pool entries that the words name. The judged class is class 1, her method 4. -/
namespace start1
open Jvm.ClassFile
def u (s : String) : CpInfo := .utf8 (stringToUtf16 s)
/-- a pool by its gaps: so many unusable entries, then the entry; so many at the end -/
def fq (n : String) (t : FieldType) (a s : Nat) : Field := { name := n, type := t, accessFlags := a, slot := s, constantValue := 0 }
def gap : Nat → List CpInfo → List CpInfo
  | 0, r => r
  | n + 1, r => .unusable :: gap n r
def poolList (es : List (Nat × CpInfo)) (last : Nat) : List CpInfo := es.foldr (fun e r => gap e.1 (e.2 :: r)) (gap last [])
def pool (es : List (Nat × CpInfo)) (last : Nat) : Array CpInfo := ⟨poolList es last⟩
def fileOf (pool : Array CpInfo) (this : Nat) (attrs : Array Attribute := #[]) (ms : Array MethodInfo := #[]) (fl : Nat := 33) (sup : Nat := 0) (ifs : Array Nat := #[]) (fds : Array FieldInfo := #[]) : ClassFile where
  minorVersion := 0
  majorVersion := 65
  constantPool := pool
  accessFlags := fl
  thisClass := this
  superClass := sup
  interfaces := ifs
  fields := fds
  methods := ms
  attributes := attrs
def plain (name : String) (sup : Option ClassId) : Class where
  name := name
  kind := .ordinary
  loader := none
  accessFlags := 33
  super := sup
  interfaces := #[]
  cf := none
  fields := #[]
  methods := #[]
  instanceTypes := #[]
  staticTypes := #[]
  resolved := #[]
  callSites := []
  init := .initialized
  statics := none
  mirror := none

def pool0 : Array CpInfo := pool [(5, u "<init>"), (0, u "()V"), (1, .class_ 10), (1, u "java/lang/Object"), (0, u "getClass"), (0, u "()Ljava/lang/Class;")] 111

def k0c0 : Code := { maxStack := 0, maxLocals := 1, code := object_method_1_code, exceptionTable := #[], attributes := #[] }
def k0m0 : Method := { name := "<init>", desc := "()V", sig := { parameters := [], returnType := none }, accessFlags := 1, code := some k0c0 }
def k0m1 : Method := { name := "getClass", desc := "()Ljava/lang/Class;", sig := { parameters := [], returnType := some (.object "java/lang/Class") }, accessFlags := 273, code := none }
def k0 : Class := { plain "java/lang/Object" none with
  accessFlags := 33
  interfaces := #[]
  cf := some (fileOf pool0 8 #[] #[⟨1, 5, 6, #[]⟩, ⟨273, 11, 12, #[]⟩] 33 0 #[] #[])
  fields := #[]
  methods := #[k0m0, k0m1]
  instanceTypes := #[]
  staticTypes := #[]
  resolved := Array.replicate 124 none
  statics := none }

def pool1 : Array CpInfo := pool [(2, .class_ 4), (0, .nameAndType 5 6), (0, u "java/lang/Object"), (0, u "<init>"), (0, u "()V"), (0, .integer 2147483647), (0, .fieldref 9 10), (0, .class_ 11), (0, .nameAndType 12 13), (0, u "com/example/sherman/sherman/service/Step"), (0, u "STRUCTURE"), (0, u "Lcom/example/sherman/sherman/service/Step;"), (0, .fieldref 9 15), (0, .nameAndType 16 13), (0, u "KEY_HASH"), (0, .fieldref 9 18), (0, .nameAndType 19 13), (0, u "SIGNATURE"), (0, .fieldref 9 21), (0, .nameAndType 22 13), (0, u "INTEGRITY"), (0, .fieldref 9 24), (0, .nameAndType 25 13), (0, u "SECURITY_HASH"), (0, .fieldref 9 27), (0, .nameAndType 28 13), (0, u "PM_HASH"), (0, .fieldref 9 30), (0, .nameAndType 31 13), (0, u "RM_HASH"), (0, .fieldref 9 33), (0, .nameAndType 34 13), (0, u "CORE_HASH"), (0, .fieldref 9 36), (0, .nameAndType 37 13), (0, u "DECRYPTION"), (0, .fieldref 9 39), (0, .nameAndType 40 13), (0, u "RANDOM_STRING"), (0, .fieldref 42 43), (0, .class_ 44), (0, .nameAndType 45 46), (0, u "com/example/sherman/sherman/service/Verification$Status"), (0, u "OK"), (0, u "Lcom/example/sherman/sherman/service/Verification$Status;"), (0, .fieldref 42 48), (0, .nameAndType 49 46), (0, u "SKIPPED"), (0, .fieldref 42 51), (0, .nameAndType 52 46), (0, u "FAILED"), (0, .methodref 54 55), (0, .class_ 56), (0, .nameAndType 57 58), (0, u "com/example/sherman/sherman/service/VerificationRefusedAtPinLaw"), (0, u "status"), (0, u "(I)Lcom/example/sherman/sherman/service/Verification$Status;"), (0, .string 60), (0, u ""), (0, .string 62), (0, u "bad"), (0, .class_ 64), (0, u "com/example/sherman/sherman/service/Verification$Outcome"), (0, .methodref 54 66), (0, .nameAndType 67 68), (0, u "step"), (0, u "(I)Lcom/example/sherman/sherman/service/Step;"), (0, .methodref 63 70), (0, .nameAndType 5 71), (0, u "(Lcom/example/sherman/sherman/service/Step;Lcom/example/sherman/sherman/service/Verification$Status;Ljava/lang/String;)V"), (0, .methodref 54 73), (0, .nameAndType 74 75), (0, u "outcome"), (0, u "(I)Lcom/example/sherman/sherman/service/Verification$Outcome;"), (0, .class_ 77), (0, u "java/util/ArrayList"), (0, .methodref 76 3), (0, .methodref 76 80), (0, .nameAndType 81 82), (0, u "add"), (0, u "(Ljava/lang/Object;)Z"), (0, .methodref 84 85), (0, .class_ 86), (0, .nameAndType 87 88), (0, u "java/lang/String"), (0, u "valueOf"), (0, u "(C)Ljava/lang/String;"), (0, .class_ 90), (0, u "com/example/sherman/sherman/service/Verification"), (0, .methodref 89 92), (0, .nameAndType 5 93), (0, u "(Ljava/util/List;Ljava/util/List;)V"), (0, .methodref 89 95), (0, .nameAndType 96 97), (0, u "refusedAt"), (0, u "()Ljava/util/Optional;"), (0, .methodref 99 100), (0, .class_ 101), (0, .nameAndType 102 103), (0, u "java/util/Optional"), (0, u "isEmpty"), (0, u "()Z"), (0, .methodref 99 105), (0, .nameAndType 106 103), (0, u "isPresent"), (0, .methodref 99 108), (0, .nameAndType 109 110), (0, u "get"), (0, u "()Ljava/lang/Object;"), (3, u "law"), (0, u "(IIIII)Z")] 5

def k1m0 : Method := { name := "<init>", desc := "()V", sig := { parameters := [], returnType := none }, accessFlags := 1, code := none }
def k1c1 : Code := { maxStack := 2, maxLocals := 2, code := method_2_code, exceptionTable := #[], attributes := #[] }
def k1m1 : Method := { name := "step", desc := "(I)Lcom/example/sherman/sherman/service/Step;", sig := { parameters := [.int], returnType := some (.object "com/example/sherman/sherman/service/Step") }, accessFlags := 10, code := some k1c1 }
def k1c2 : Code := { maxStack := 2, maxLocals := 2, code := method_3_code, exceptionTable := #[], attributes := #[] }
def k1m2 : Method := { name := "status", desc := "(I)Lcom/example/sherman/sherman/service/Verification$Status;", sig := { parameters := [.int], returnType := some (.object "com/example/sherman/sherman/service/Verification$Status") }, accessFlags := 10, code := some k1c2 }
def k1c3 : Code := { maxStack := 5, maxLocals := 3, code := method_4_code, exceptionTable := #[], attributes := #[] }
def k1m3 : Method := { name := "outcome", desc := "(I)Lcom/example/sherman/sherman/service/Verification$Outcome;", sig := { parameters := [.int], returnType := some (.object "com/example/sherman/sherman/service/Verification$Outcome") }, accessFlags := 10, code := some k1c3 }
def k1c4 : Code := { maxStack := 4, maxLocals := 14, code := code, exceptionTable := #[], attributes := #[] }
def k1m4 : Method := { name := "law", desc := "(IIIII)Z", sig := { parameters := [.int, .int, .int, .int, .int], returnType := some .boolean }, accessFlags := 9, code := some k1c4 }
def k1 : Class := { plain "com/example/sherman/sherman/service/VerificationRefusedAtPinLaw" (some 0) with
  accessFlags := 49
  interfaces := #[]
  cf := some (fileOf pool1 54 #[] #[⟨1, 5, 6, #[]⟩, ⟨10, 67, 68, #[]⟩, ⟨10, 57, 58, #[]⟩, ⟨10, 74, 75, #[]⟩, ⟨9, 114, 115, #[]⟩] 49 2 #[] #[])
  fields := #[]
  methods := #[k1m0, k1m1, k1m2, k1m3, k1m4]
  instanceTypes := #[]
  staticTypes := #[]
  resolved := Array.replicate 121 none
  statics := none }

def pool2 : Array CpInfo := pool [(1, .class_ 2), (0, u "java/lang/constant/Constable"), (0, .class_ 4), (0, u "java/lang/Object")] 6

def k2 : Class := { plain "java/lang/constant/Constable" (some 0) with
  accessFlags := 1537
  interfaces := #[]
  cf := some (fileOf pool2 1 #[] #[] 1537 3 #[] #[])
  fields := #[]
  methods := #[]
  instanceTypes := #[]
  staticTypes := #[]
  resolved := Array.replicate 11 none
  statics := none }

def pool3 : Array CpInfo := pool [(1, .class_ 2), (0, u "java/lang/Comparable"), (0, .class_ 4), (0, u "java/lang/Object")] 7

def k3 : Class := { plain "java/lang/Comparable" (some 0) with
  accessFlags := 1537
  interfaces := #[]
  cf := some (fileOf pool3 1 #[] #[] 1537 3 #[] #[])
  fields := #[]
  methods := #[]
  instanceTypes := #[]
  staticTypes := #[]
  resolved := Array.replicate 12 none
  statics := none }

def pool4 : Array CpInfo := pool [(1, .class_ 2), (0, u "java/io/Serializable"), (0, .class_ 4), (0, u "java/lang/Object")] 2

def k4 : Class := { plain "java/io/Serializable" (some 0) with
  accessFlags := 1537
  interfaces := #[]
  cf := some (fileOf pool4 1 #[] #[] 1537 3 #[] #[])
  fields := #[]
  methods := #[]
  instanceTypes := #[]
  staticTypes := #[]
  resolved := Array.replicate 7 none
  statics := none }

def pool5 : Array CpInfo := pool [(2, .class_ 4), (1, u "java/lang/Enum"), (0, u "name"), (0, u "Ljava/lang/String;"), (2, u "ordinal"), (0, u "I"), (1, .class_ 14), (1, u "java/lang/Object"), (4, u "hash"), (86, .class_ 108), (1, u "java/lang/Enum$EnumDesc"), (2, .class_ 112), (0, u "java/lang/constant/Constable"), (0, .class_ 114), (0, u "java/lang/Comparable"), (0, .class_ 116), (0, u "java/io/Serializable")] 87

def k5 : Class := { plain "java/lang/Enum" (some 0) with
  accessFlags := 1057
  interfaces := #[2, 3, 4]
  cf := some (fileOf pool5 2 #[.nestMembers #[106]] #[] 1057 12 #[111, 113, 115] #[⟨18, 5, 6, #[]⟩, ⟨18, 9, 10, #[]⟩, ⟨2, 19, 10, #[]⟩])
  fields := #[fq "name" (.object "java/lang/String") 18 0, fq "ordinal" .int 18 1, fq "hash" .int 2 2]
  methods := #[]
  instanceTypes := #[(.object "java/lang/String"), .int, .int]
  staticTypes := #[]
  resolved := Array.replicate 204 none
  statics := none }

def pool6 : Array CpInfo := pool [(1, .class_ 2), (0, u "com/example/sherman/sherman/service/Verification$Status"), (2, u "OK"), (0, u "Lcom/example/sherman/sherman/service/Verification$Status;"), (2, u "SKIPPED"), (2, u "FAILED"), (2, u "$VALUES"), (0, u "[Lcom/example/sherman/sherman/service/Verification$Status;"), (6, .class_ 25), (1, u "java/lang/Enum"), (26, .class_ 53), (0, u "com/example/sherman/sherman/service/Verification")] 2

def k6 : Class := { plain "com/example/sherman/sherman/service/Verification$Status" (some 5) with
  accessFlags := 16433
  interfaces := #[]
  cf := some (fileOf pool6 1 #[.nestHost 52] #[] 16433 23 #[] #[⟨16409, 5, 6, #[]⟩, ⟨16409, 9, 6, #[]⟩, ⟨16409, 12, 6, #[]⟩, ⟨4122, 15, 16, #[]⟩])
  fields := #[fq "OK" (.object "com/example/sherman/sherman/service/Verification$Status") 16409 0, fq "SKIPPED" (.object "com/example/sherman/sherman/service/Verification$Status") 16409 1, fq "FAILED" (.object "com/example/sherman/sherman/service/Verification$Status") 16409 2, fq "$VALUES" (.array (.object "com/example/sherman/sherman/service/Verification$Status")) 4122 3]
  methods := #[]
  instanceTypes := #[(.object "java/lang/String"), .int, .int]
  staticTypes := #[(.object "com/example/sherman/sherman/service/Verification$Status"), (.object "com/example/sherman/sherman/service/Verification$Status"), (.object "com/example/sherman/sherman/service/Verification$Status"), (.array (.object "com/example/sherman/sherman/service/Verification$Status"))]
  resolved := Array.replicate 56 none
  statics := some 0 }

def pool7 : Array CpInfo := pool [(2, .class_ 4), (1, u "java/lang/CharSequence"), (42, .class_ 48), (0, u "java/lang/CharSequence$1CodePointIterator"), (10, .class_ 60), (0, u "java/lang/CharSequence$1CharIterator"), (5, .class_ 67), (0, u "java/lang/Object")] 63

def k7 : Class := { plain "java/lang/CharSequence" (some 0) with
  accessFlags := 1537
  interfaces := #[]
  cf := some (fileOf pool7 2 #[.nestMembers #[47, 59]] #[] 1537 66 #[] #[])
  fields := #[]
  methods := #[]
  instanceTypes := #[]
  staticTypes := #[]
  resolved := Array.replicate 131 none
  statics := none }

def pool8 : Array CpInfo := pool [(1, .class_ 2), (0, u "java/lang/constant/ConstantDesc"), (0, .class_ 4), (0, u "java/lang/Object")] 32

def k8 : Class := { plain "java/lang/constant/ConstantDesc" (some 0) with
  accessFlags := 1537
  interfaces := #[]
  cf := some (fileOf pool8 1 #[] #[] 1537 3 #[] #[])
  fields := #[]
  methods := #[]
  instanceTypes := #[]
  staticTypes := #[]
  resolved := Array.replicate 37 none
  statics := none }

def pool9 : Array CpInfo := pool [(1, .methodref 2 3), (0, .class_ 4), (0, .nameAndType 5 6), (0, u "java/lang/Object"), (0, u "<init>"), (0, u "()V"), (2, .fieldref 10 11), (0, .class_ 12), (0, .nameAndType 13 14), (0, u "java/lang/String"), (0, u "value"), (0, u "[B"), (0, .fieldref 10 16), (0, .nameAndType 17 18), (0, u "coder"), (0, u "B"), (2, u "hash"), (0, u "I"), (2, u "hashIsZero"), (0, u "Z"), (11, .fieldref 10 39), (0, .nameAndType 40 26), (0, u "COMPACT_STRINGS"), (12, u "toBytes"), (53, .class_ 109), (1, u "java/lang/StringLatin1"), (99, .methodref 10 210), (0, .nameAndType 5 211), (0, u "([BB)V"), (157, u "(C)Z"), (205, .class_ 576), (0, u "java/lang/CharSequence"), (22, u "CASE_INSENSITIVE_ORDER"), (0, u "Ljava/util/Comparator;"), (181, u "valueOf"), (0, u "(C)Ljava/lang/String;"), (231, .methodref 107 1016), (0, .nameAndType 1017 369), (0, u "canEncode"), (0, .methodref 107 1019), (0, .nameAndType 53 1020), (0, u "(C)[B"), (80, u "serialPersistentFields"), (0, u "[Ljava/io/ObjectStreamField;"), (0, .class_ 1104), (0, u "java/lang/String$CaseInsensitiveComparator"), (1, .class_ 1107), (0, u "java/io/Serializable"), (0, .class_ 1109), (0, u "java/lang/Comparable"), (0, .class_ 1111), (0, u "java/lang/constant/Constable"), (0, .class_ 1113), (0, u "java/lang/constant/ConstantDesc"), (2, u "serialVersionUID"), (0, u "J"), (3, u "REPL"), (0, u "C"), (2, u "LATIN1"), (1, u "UTF16")] 323

def k9m0 : Method := { name := "<init>", desc := "()V", sig := { parameters := [], returnType := none }, accessFlags := 1, code := none }
def k9c1 : Code := { maxStack := 4, maxLocals := 1, code := jdk_42_method_139_code, exceptionTable := #[], attributes := #[] }
def k9m1 : Method := { name := "valueOf", desc := "(C)Ljava/lang/String;", sig := { parameters := [.char], returnType := some (.object "java/lang/String") }, accessFlags := 9, code := some k9c1 }
def k9c2 : Code := { maxStack := 2, maxLocals := 3, code := jdk_42_method_151_code, exceptionTable := #[], attributes := #[] }
def k9m2 : Method := { name := "<init>", desc := "([BB)V", sig := { parameters := [(.array .byte), .byte], returnType := none }, accessFlags := 0, code := some k9c2 }
def k9 : Class := { plain "java/lang/String" (some 0) with
  accessFlags := 49
  interfaces := #[4, 3, 7, 2, 8]
  cf := some (fileOf pool9 10 #[.nestMembers #[1103]] #[⟨1, 5, 6, #[]⟩, ⟨9, 782, 783, #[]⟩, ⟨0, 5, 211, #[]⟩] 49 2 #[1106, 1108, 575, 1110, 1112] #[⟨18, 13, 14, #[]⟩, ⟨18, 17, 18, #[]⟩, ⟨2, 21, 22, #[]⟩, ⟨2, 25, 26, #[]⟩, ⟨26, 1116, 1117, #[]⟩, ⟨24, 40, 26, #[]⟩, ⟨26, 1101, 1102, #[]⟩, ⟨26, 1121, 1122, #[]⟩, ⟨25, 599, 600, #[]⟩, ⟨24, 1125, 18, #[]⟩, ⟨24, 1127, 18, #[]⟩])
  fields := #[fq "value" (.array .byte) 18 0, fq "coder" .byte 18 1, fq "hash" .int 2 2, fq "hashIsZero" .boolean 2 3, fq "serialVersionUID" .long 26 0, fq "COMPACT_STRINGS" .boolean 24 1, fq "serialPersistentFields" (.array (.object "java/io/ObjectStreamField")) 26 2, fq "REPL" .char 26 3, fq "CASE_INSENSITIVE_ORDER" (.object "java/util/Comparator") 25 4, fq "LATIN1" .byte 24 5, fq "UTF16" .byte 24 6]
  methods := #[k9m0, k9m1, k9m2]
  instanceTypes := #[(.array .byte), .byte, .int, .boolean]
  staticTypes := #[.long, .boolean, (.array (.object "java/io/ObjectStreamField")), .char, (.object "java/util/Comparator"), .byte, .byte]
  resolved := Array.replicate 1451 none
  statics := some 1 }

def pool10 : Array CpInfo := pool [(1, .methodref 2 3), (0, .class_ 4), (0, .nameAndType 5 6), (0, u "java/lang/Object"), (0, u "<init>"), (0, u "()V"), (0, .class_ 8), (0, u "java/lang/Record")] 13

def k10c0 : Code := { maxStack := 1, maxLocals := 1, code := jdk_30_method_1_code, exceptionTable := #[], attributes := #[] }
def k10m0 : Method := { name := "<init>", desc := "()V", sig := { parameters := [], returnType := none }, accessFlags := 4, code := some k10c0 }
def k10 : Class := { plain "java/lang/Record" (some 0) with
  accessFlags := 1057
  interfaces := #[]
  cf := some (fileOf pool10 7 #[] #[⟨4, 5, 6, #[]⟩] 1057 2 #[] #[])
  fields := #[]
  methods := #[k10m0]
  instanceTypes := #[]
  staticTypes := #[]
  resolved := Array.replicate 22 none
  statics := none }

def pool11 : Array CpInfo := pool [(1, .methodref 2 3), (0, .class_ 4), (0, .nameAndType 5 6), (0, u "java/lang/Record"), (0, u "<init>"), (0, u "()V"), (0, .fieldref 8 9), (0, .class_ 10), (0, .nameAndType 11 12), (0, u "com/example/sherman/sherman/service/Verification$Outcome"), (0, u "step"), (0, u "Lcom/example/sherman/sherman/service/Step;"), (0, .fieldref 8 14), (0, .nameAndType 15 16), (0, u "status"), (0, u "Lcom/example/sherman/sherman/service/Verification$Status;"), (0, .fieldref 8 18), (0, .nameAndType 19 20), (0, u "reason"), (0, u "Ljava/lang/String;"), (12, u "(Lcom/example/sherman/sherman/service/Step;Lcom/example/sherman/sherman/service/Verification$Status;Ljava/lang/String;)V"), (6, u "()Lcom/example/sherman/sherman/service/Step;"), (0, u "()Lcom/example/sherman/sherman/service/Verification$Status;"), (3, .class_ 46), (0, u "com/example/sherman/sherman/service/Verification")] 24

def k11c0 : Code := { maxStack := 2, maxLocals := 4, code := prog_14_method_1_code, exceptionTable := #[], attributes := #[] }
def k11m0 : Method := { name := "<init>", desc := "(Lcom/example/sherman/sherman/service/Step;Lcom/example/sherman/sherman/service/Verification$Status;Ljava/lang/String;)V", sig := { parameters := [(.object "com/example/sherman/sherman/service/Step"), (.object "com/example/sherman/sherman/service/Verification$Status"), (.object "java/lang/String")], returnType := none }, accessFlags := 1, code := some k11c0 }
def k11c1 : Code := { maxStack := 1, maxLocals := 1, code := prog_14_method_5_code, exceptionTable := #[], attributes := #[] }
def k11m1 : Method := { name := "step", desc := "()Lcom/example/sherman/sherman/service/Step;", sig := { parameters := [], returnType := some (.object "com/example/sherman/sherman/service/Step") }, accessFlags := 1, code := some k11c1 }
def k11c2 : Code := { maxStack := 1, maxLocals := 1, code := prog_14_method_6_code, exceptionTable := #[], attributes := #[] }
def k11m2 : Method := { name := "status", desc := "()Lcom/example/sherman/sherman/service/Verification$Status;", sig := { parameters := [], returnType := some (.object "com/example/sherman/sherman/service/Verification$Status") }, accessFlags := 1, code := some k11c2 }
def k11 : Class := { plain "com/example/sherman/sherman/service/Verification$Outcome" (some 10) with
  accessFlags := 49
  interfaces := #[]
  cf := some (fileOf pool11 8 #[.nestHost 45] #[⟨1, 5, 33, #[]⟩, ⟨1, 11, 40, #[]⟩, ⟨1, 15, 41, #[]⟩] 49 2 #[] #[⟨18, 11, 12, #[]⟩, ⟨18, 15, 16, #[]⟩, ⟨18, 19, 20, #[]⟩])
  fields := #[fq "step" (.object "com/example/sherman/sherman/service/Step") 18 0, fq "status" (.object "com/example/sherman/sherman/service/Verification$Status") 18 1, fq "reason" (.object "java/lang/String") 18 2]
  methods := #[k11m0, k11m1, k11m2]
  instanceTypes := #[(.object "com/example/sherman/sherman/service/Step"), (.object "com/example/sherman/sherman/service/Verification$Status"), (.object "java/lang/String")]
  staticTypes := #[]
  resolved := Array.replicate 71 none
  statics := none }

def pool12 : Array CpInfo := pool [(1, .class_ 2), (0, u "com/example/sherman/sherman/service/Step"), (2, u "STRUCTURE"), (0, u "Lcom/example/sherman/sherman/service/Step;"), (2, u "KEY_HASH"), (2, u "SIGNATURE"), (2, u "INTEGRITY"), (2, u "SECURITY_HASH"), (2, u "PM_HASH"), (2, u "RM_HASH"), (2, u "CORE_HASH"), (2, u "DECRYPTION"), (2, u "RANDOM_STRING"), (2, u "$VALUES"), (0, u "[Lcom/example/sherman/sherman/service/Step;"), (6, .class_ 46), (1, u "java/lang/Enum"), (8, u "label"), (0, u "Ljava/lang/String;")] 50

def k12 : Class := { plain "com/example/sherman/sherman/service/Step" (some 5) with
  accessFlags := 16433
  interfaces := #[]
  cf := some (fileOf pool12 1 #[] #[] 16433 44 #[] #[⟨16409, 5, 6, #[]⟩, ⟨16409, 9, 6, #[]⟩, ⟨16409, 12, 6, #[]⟩, ⟨16409, 15, 6, #[]⟩, ⟨16409, 18, 6, #[]⟩, ⟨16409, 21, 6, #[]⟩, ⟨16409, 24, 6, #[]⟩, ⟨16409, 27, 6, #[]⟩, ⟨16409, 30, 6, #[]⟩, ⟨16409, 33, 6, #[]⟩, ⟨18, 55, 56, #[]⟩, ⟨4122, 36, 37, #[]⟩])
  fields := #[fq "STRUCTURE" (.object "com/example/sherman/sherman/service/Step") 16409 0, fq "KEY_HASH" (.object "com/example/sherman/sherman/service/Step") 16409 1, fq "SIGNATURE" (.object "com/example/sherman/sherman/service/Step") 16409 2, fq "INTEGRITY" (.object "com/example/sherman/sherman/service/Step") 16409 3, fq "SECURITY_HASH" (.object "com/example/sherman/sherman/service/Step") 16409 4, fq "PM_HASH" (.object "com/example/sherman/sherman/service/Step") 16409 5, fq "RM_HASH" (.object "com/example/sherman/sherman/service/Step") 16409 6, fq "CORE_HASH" (.object "com/example/sherman/sherman/service/Step") 16409 7, fq "DECRYPTION" (.object "com/example/sherman/sherman/service/Step") 16409 8, fq "RANDOM_STRING" (.object "com/example/sherman/sherman/service/Step") 16409 9, fq "label" (.object "java/lang/String") 18 3, fq "$VALUES" (.array (.object "com/example/sherman/sherman/service/Step")) 4122 10]
  methods := #[]
  instanceTypes := #[(.object "java/lang/String"), .int, .int, (.object "java/lang/String")]
  staticTypes := #[(.object "com/example/sherman/sherman/service/Step"), (.object "com/example/sherman/sherman/service/Step"), (.object "com/example/sherman/sherman/service/Step"), (.object "com/example/sherman/sherman/service/Step"), (.object "com/example/sherman/sherman/service/Step"), (.object "com/example/sherman/sherman/service/Step"), (.object "com/example/sherman/sherman/service/Step"), (.object "com/example/sherman/sherman/service/Step"), (.object "com/example/sherman/sherman/service/Step"), (.object "com/example/sherman/sherman/service/Step"), (.array (.object "com/example/sherman/sherman/service/Step"))]
  resolved := Array.replicate 107 none
  statics := some 2 }

def pool13 : Array CpInfo := pool [(8, .class_ 10), (1, u "java/lang/Iterable"), (24, .class_ 36), (0, u "java/lang/Object")] 25

def k13 : Class := { plain "java/lang/Iterable" (some 0) with
  accessFlags := 1537
  interfaces := #[]
  cf := some (fileOf pool13 8 #[] #[] 1537 35 #[] #[])
  fields := #[]
  methods := #[]
  instanceTypes := #[]
  staticTypes := #[]
  resolved := Array.replicate 62 none
  statics := none }

def pool14 : Array CpInfo := pool [(10, .class_ 12), (1, u "java/util/Collection"), (0, u "toArray"), (16, u "()Z"), (29, .class_ 61), (0, u "java/lang/Object"), (0, .class_ 63), (0, u "java/lang/Iterable"), (2, u "isEmpty"), (3, u "()[Ljava/lang/Object;")] 44

def k14m0 : Method := { name := "isEmpty", desc := "()Z", sig := { parameters := [], returnType := some .boolean }, accessFlags := 1025, code := none }
def k14m1 : Method := { name := "toArray", desc := "()[Ljava/lang/Object;", sig := { parameters := [], returnType := some (.array (.object "java/lang/Object")) }, accessFlags := 1025, code := none }
def k14 : Class := { plain "java/util/Collection" (some 0) with
  accessFlags := 1537
  interfaces := #[13]
  cf := some (fileOf pool14 10 #[] #[⟨1025, 66, 30, #[]⟩, ⟨1025, 13, 70, #[]⟩] 1537 60 #[62] #[])
  fields := #[]
  methods := #[k14m0, k14m1]
  instanceTypes := #[]
  staticTypes := #[]
  resolved := Array.replicate 115 none
  statics := none }

def pool15 : Array CpInfo := pool [(1, .methodref 2 3), (0, .class_ 4), (0, .nameAndType 5 6), (0, u "java/lang/Object"), (0, u "<init>"), (0, u "()V"), (1, .class_ 10), (1, u "java/util/AbstractCollection"), (0, u "size"), (0, u "()I"), (64, .class_ 78), (0, u "java/util/Collection")] 81

def k15c0 : Code := { maxStack := 1, maxLocals := 1, code := jdk_22_method_1_code, exceptionTable := #[], attributes := #[] }
def k15m0 : Method := { name := "<init>", desc := "()V", sig := { parameters := [], returnType := none }, accessFlags := 4, code := some k15c0 }
def k15m1 : Method := { name := "size", desc := "()I", sig := { parameters := [], returnType := some .int }, accessFlags := 1025, code := none }
def k15 : Class := { plain "java/util/AbstractCollection" (some 0) with
  accessFlags := 1057
  interfaces := #[14]
  cf := some (fileOf pool15 8 #[] #[⟨4, 5, 6, #[]⟩, ⟨1025, 11, 12, #[]⟩] 1057 2 #[77] #[])
  fields := #[]
  methods := #[k15m0, k15m1]
  instanceTypes := #[]
  staticTypes := #[]
  resolved := Array.replicate 160 none
  statics := none }

def pool16 : Array CpInfo := pool [(8, .class_ 10), (1, u "java/util/SequencedCollection"), (15, .class_ 27), (0, u "java/lang/Object"), (0, .class_ 29), (0, u "java/util/Collection")] 27

def k16 : Class := { plain "java/util/SequencedCollection" (some 0) with
  accessFlags := 1537
  interfaces := #[14]
  cf := some (fileOf pool16 8 #[] #[] 1537 26 #[28] #[])
  fields := #[]
  methods := #[]
  instanceTypes := #[]
  staticTypes := #[]
  resolved := Array.replicate 57 none
  statics := none }

def pool17 : Array CpInfo := pool [(8, .class_ 10), (1, u "java/util/List"), (20, u "(Ljava/lang/Object;)V"), (16, u "<init>"), (26, u "get"), (0, u "(I)Ljava/lang/Object;"), (11, u "of"), (1, .fieldref 91 92), (0, .class_ 93), (0, .nameAndType 94 95), (0, u "java/util/ImmutableCollections"), (0, u "EMPTY_LIST"), (0, u "Ljava/util/ImmutableCollections$ListN;"), (0, .class_ 97), (0, u "java/util/ImmutableCollections$List12"), (0, .methodref 96 99), (0, .nameAndType 48 31), (0, .methodref 96 101), (0, .nameAndType 48 102), (0, u "(Ljava/lang/Object;Ljava/lang/Object;)V"), (0, .class_ 104), (0, u "java/lang/Object"), (3, u "([Ljava/lang/Object;)Ljava/util/List;"), (0, .methodref 91 110), (0, .nameAndType 111 108), (0, u "listFromArray"), (0, .methodref 91 113), (0, .nameAndType 114 115), (0, u "listCopy"), (0, u "(Ljava/util/Collection;)Ljava/util/List;"), (3, u "()Ljava/util/List;"), (0, .class_ 121), (0, u "java/util/SequencedCollection"), (1, u "iterator"), (0, u "()Ljava/util/Iterator;"), (109, u "copyOf")] 16

def k17m0 : Method := { name := "iterator", desc := "()Ljava/util/Iterator;", sig := { parameters := [], returnType := some (.object "java/util/Iterator") }, accessFlags := 1025, code := none }
def k17m1 : Method := { name := "get", desc := "(I)Ljava/lang/Object;", sig := { parameters := [.int], returnType := some (.object "java/lang/Object") }, accessFlags := 1025, code := none }
def k17c2 : Code := { maxStack := 1, maxLocals := 0, code := jdk_40_method_36_code, exceptionTable := #[], attributes := #[] }
def k17m2 : Method := { name := "of", desc := "()Ljava/util/List;", sig := { parameters := [], returnType := some (.object "java/util/List") }, accessFlags := 9, code := some k17c2 }
def k17c3 : Code := { maxStack := 5, maxLocals := 2, code := jdk_40_method_47_code, exceptionTable := #[], attributes := #[] }
def k17m3 : Method := { name := "of", desc := "([Ljava/lang/Object;)Ljava/util/List;", sig := { parameters := [(.array (.object "java/lang/Object"))], returnType := some (.object "java/util/List") }, accessFlags := 137, code := some k17c3 }
def k17c4 : Code := { maxStack := 1, maxLocals := 1, code := jdk_40_method_48_code, exceptionTable := #[], attributes := #[] }
def k17m4 : Method := { name := "copyOf", desc := "(Ljava/util/Collection;)Ljava/util/List;", sig := { parameters := [(.object "java/util/Collection")], returnType := some (.object "java/util/List") }, accessFlags := 9, code := some k17c4 }
def k17 : Class := { plain "java/util/List" (some 0) with
  accessFlags := 1537
  interfaces := #[16]
  cf := some (fileOf pool17 8 #[] #[⟨1025, 123, 124, #[]⟩, ⟨1025, 75, 76, #[]⟩, ⟨9, 88, 119, #[]⟩, ⟨137, 88, 108, #[]⟩, ⟨9, 234, 115, #[]⟩] 1537 103 #[120] #[])
  fields := #[]
  methods := #[k17m0, k17m1, k17m2, k17m3, k17m4]
  instanceTypes := #[]
  staticTypes := #[]
  resolved := Array.replicate 251 none
  statics := none }

def pool18 : Array CpInfo := pool [(1, .methodref 2 3), (0, .class_ 4), (0, .nameAndType 5 6), (0, u "java/util/AbstractCollection"), (0, u "<init>"), (0, u "()V"), (0, .fieldref 8 9), (0, .class_ 10), (0, .nameAndType 11 12), (0, u "java/util/AbstractList"), (0, u "modCount"), (0, u "I"), (64, .class_ 78), (0, u "java/util/AbstractList$Itr"), (3, .class_ 83), (0, u "java/util/AbstractList$ListItr"), (9, .class_ 94), (0, u "java/util/AbstractList$RandomAccessSubList"), (3, .class_ 99), (0, u "java/util/AbstractList$SubList"), (33, .class_ 134), (0, u "java/util/List"), (73, .class_ 209), (0, u "java/util/AbstractList$SubList$1"), (0, .class_ 211), (0, u "java/util/AbstractList$RandomAccessSpliterator")] 6

def k18c0 : Code := { maxStack := 2, maxLocals := 1, code := jdk_39_method_1_code, exceptionTable := #[], attributes := #[] }
def k18m0 : Method := { name := "<init>", desc := "()V", sig := { parameters := [], returnType := none }, accessFlags := 4, code := some k18c0 }
def k18 : Class := { plain "java/util/AbstractList" (some 15) with
  accessFlags := 1057
  interfaces := #[17]
  cf := some (fileOf pool18 8 #[.nestMembers #[93, 98, 208, 210, 82, 77]] #[⟨4, 5, 6, #[]⟩] 1057 2 #[133] #[⟨132, 11, 12, #[]⟩])
  fields := #[fq "modCount" .int 132 0]
  methods := #[k18m0]
  instanceTypes := #[.int]
  staticTypes := #[]
  resolved := Array.replicate 218 none
  statics := none }

def pool19 : Array CpInfo := pool [(1, .class_ 2), (0, u "java/util/RandomAccess"), (0, .class_ 4), (0, u "java/lang/Object")] 2

def k19 : Class := { plain "java/util/RandomAccess" (some 0) with
  accessFlags := 1537
  interfaces := #[]
  cf := some (fileOf pool19 1 #[] #[] 1537 3 #[] #[])
  fields := #[]
  methods := #[]
  instanceTypes := #[]
  staticTypes := #[]
  resolved := Array.replicate 7 none
  statics := none }

def pool20 : Array CpInfo := pool [(1, .class_ 2), (0, u "java/lang/Cloneable"), (0, .class_ 4), (0, u "java/lang/Object")] 2

def k20 : Class := { plain "java/lang/Cloneable" (some 0) with
  accessFlags := 1537
  interfaces := #[]
  cf := some (fileOf pool20 1 #[] #[] 1537 3 #[] #[])
  fields := #[]
  methods := #[]
  instanceTypes := #[]
  staticTypes := #[]
  resolved := Array.replicate 7 none
  statics := none }

def pool21 : Array CpInfo := pool [(1, .methodref 2 3), (0, .class_ 4), (0, .nameAndType 5 6), (0, u "java/util/AbstractList"), (0, u "<init>"), (0, u "()V"), (0, .class_ 8), (0, u "java/lang/Object"), (0, .fieldref 10 11), (0, .class_ 12), (0, .nameAndType 13 14), (0, u "java/util/ArrayList"), (0, u "elementData"), (0, u "[Ljava/lang/Object;"), (2, u "EMPTY_ELEMENTDATA"), (21, .fieldref 10 40), (0, .nameAndType 41 14), (0, u "DEFAULTCAPACITY_EMPTY_ELEMENTDATA"), (4, u "toArray"), (0, u "()[Ljava/lang/Object;"), (0, .fieldref 10 49), (0, .nameAndType 50 51), (0, u "size"), (0, u "I"), (6, .class_ 60), (1, u "java/util/Arrays"), (0, u "copyOf"), (1, .fieldref 10 64), (0, .nameAndType 65 51), (0, u "modCount"), (0, .methodref 58 67), (0, .nameAndType 61 68), (0, u "([Ljava/lang/Object;I)[Ljava/lang/Object;"), (0, .methodref 10 70), (0, .nameAndType 71 72), (0, u "grow"), (0, u "(I)[Ljava/lang/Object;"), (6, .methodref 80 81), (0, .class_ 82), (0, .nameAndType 83 84), (0, u "java/lang/Math"), (0, u "max"), (0, u "(II)I"), (11, u "(Ljava/lang/Object;)Z"), (32, .methodref 10 130), (0, .nameAndType 71 47), (0, .methodref 10 132), (0, .nameAndType 133 134), (0, u "add"), (0, u "(Ljava/lang/Object;[Ljava/lang/Object;I)V"), (13, .class_ 149), (0, u "java/util/List"), (23, u "()Z"), (88, .class_ 263), (0, u "java/util/ArrayList$ListItr"), (3, .class_ 268), (0, u "java/util/ArrayList$Itr"), (7, .class_ 277), (0, u "java/util/ArrayList$SubList"), (12, .class_ 291), (0, u "java/util/ArrayList$ArrayListSpliterator"), (37, .class_ 330), (0, u "java/util/RandomAccess"), (0, .class_ 332), (0, u "java/lang/Cloneable"), (0, .class_ 334), (0, u "java/io/Serializable"), (0, u "serialVersionUID"), (0, u "J"), (3, u "DEFAULT_CAPACITY"), (22, u "isEmpty"), (136, .class_ 501), (0, u "java/util/ArrayList$SubList$2"), (0, .class_ 503), (0, u "java/util/ArrayList$SubList$1")] 5

def k21c0 : Code := { maxStack := 2, maxLocals := 1, code := jdk_38_method_2_code, exceptionTable := #[], attributes := #[] }
def k21m0 : Method := { name := "<init>", desc := "()V", sig := { parameters := [], returnType := none }, accessFlags := 1, code := some k21c0 }
def k21c1 : Code := { maxStack := 4, maxLocals := 4, code := jdk_38_method_6_code, exceptionTable := #[], attributes := #[] }
def k21m1 : Method := { name := "grow", desc := "(I)[Ljava/lang/Object;", sig := { parameters := [.int], returnType := some (.array (.object "java/lang/Object")) }, accessFlags := 2, code := some k21c1 }
def k21c2 : Code := { maxStack := 3, maxLocals := 1, code := jdk_38_method_7_code, exceptionTable := #[], attributes := #[] }
def k21m2 : Method := { name := "grow", desc := "()[Ljava/lang/Object;", sig := { parameters := [], returnType := some (.array (.object "java/lang/Object")) }, accessFlags := 2, code := some k21c2 }
def k21c3 : Code := { maxStack := 1, maxLocals := 1, code := jdk_38_method_9_code, exceptionTable := #[], attributes := #[] }
def k21m3 : Method := { name := "isEmpty", desc := "()Z", sig := { parameters := [], returnType := some .boolean }, accessFlags := 1, code := some k21c3 }
def k21c4 : Code := { maxStack := 2, maxLocals := 1, code := jdk_38_method_16_code, exceptionTable := #[], attributes := #[] }
def k21m4 : Method := { name := "toArray", desc := "()[Ljava/lang/Object;", sig := { parameters := [], returnType := some (.array (.object "java/lang/Object")) }, accessFlags := 1, code := some k21c4 }
def k21c5 : Code := { maxStack := 3, maxLocals := 4, code := jdk_38_method_24_code, exceptionTable := #[], attributes := #[] }
def k21m5 : Method := { name := "add", desc := "(Ljava/lang/Object;[Ljava/lang/Object;I)V", sig := { parameters := [(.object "java/lang/Object"), (.array (.object "java/lang/Object")), .int], returnType := none }, accessFlags := 2, code := some k21c5 }
def k21c6 : Code := { maxStack := 4, maxLocals := 2, code := jdk_38_method_25_code, exceptionTable := #[], attributes := #[] }
def k21m6 : Method := { name := "add", desc := "(Ljava/lang/Object;)Z", sig := { parameters := [(.object "java/lang/Object")], returnType := some .boolean }, accessFlags := 1, code := some k21c6 }
def k21 : Class := { plain "java/util/ArrayList" (some 18) with
  accessFlags := 33
  interfaces := #[17, 19, 20, 4]
  cf := some (fileOf pool21 10 #[.nestMembers #[290, 276, 500, 502, 262, 267]] #[⟨1, 5, 6, #[]⟩, ⟨2, 71, 72, #[]⟩, ⟨2, 71, 47, #[]⟩, ⟨1, 363, 173, #[]⟩, ⟨1, 46, 47, #[]⟩, ⟨2, 133, 134, #[]⟩, ⟨1, 133, 96, #[]⟩] 33 2 #[148, 329, 331, 333] #[⟨26, 335, 336, #[]⟩, ⟨26, 340, 51, #[]⟩, ⟨26, 17, 14, #[]⟩, ⟨26, 41, 14, #[]⟩, ⟨128, 13, 14, #[]⟩, ⟨2, 50, 51, #[]⟩])
  fields := #[fq "serialVersionUID" .long 26 0, fq "DEFAULT_CAPACITY" .int 26 1, fq "EMPTY_ELEMENTDATA" (.array (.object "java/lang/Object")) 26 2, fq "DEFAULTCAPACITY_EMPTY_ELEMENTDATA" (.array (.object "java/lang/Object")) 26 3, fq "elementData" (.array (.object "java/lang/Object")) 128 1, fq "size" .int 2 2]
  methods := #[k21m0, k21m1, k21m2, k21m3, k21m4, k21m5, k21m6]
  instanceTypes := #[.int, (.array (.object "java/lang/Object")), .int]
  staticTypes := #[.long, .int, (.array (.object "java/lang/Object")), (.array (.object "java/lang/Object"))]
  resolved := Array.replicate 509 none
  statics := some 3 }

def pool22 : Array CpInfo := pool [(1, .methodref 2 3), (0, .class_ 4), (0, .nameAndType 5 6), (0, u "java/lang/Record"), (0, u "<init>"), (0, u "()V"), (0, .interfaceMethodref 8 9), (0, .class_ 10), (0, .nameAndType 11 12), (0, u "java/util/List"), (0, u "copyOf"), (0, u "(Ljava/util/Collection;)Ljava/util/List;"), (0, .fieldref 14 15), (0, .class_ 16), (0, .nameAndType 17 18), (0, u "com/example/sherman/sherman/service/Verification"), (0, u "outcomes"), (0, u "Ljava/util/List;"), (0, .fieldref 14 20), (0, .nameAndType 21 18), (0, u "notes"), (0, .interfaceMethodref 8 23), (0, .nameAndType 24 25), (0, u "iterator"), (0, u "()Ljava/util/Iterator;"), (0, .interfaceMethodref 27 28), (0, .class_ 29), (0, .nameAndType 30 31), (0, u "java/util/Iterator"), (0, u "hasNext"), (0, u "()Z"), (0, .interfaceMethodref 27 33), (0, .nameAndType 34 35), (0, u "next"), (0, u "()Ljava/lang/Object;"), (0, .class_ 37), (0, u "com/example/sherman/sherman/service/Verification$Outcome"), (0, .methodref 36 39), (0, .nameAndType 40 41), (0, u "status"), (0, u "()Lcom/example/sherman/sherman/service/Verification$Status;"), (0, .fieldref 43 44), (0, .class_ 45), (0, .nameAndType 46 47), (0, u "com/example/sherman/sherman/service/Verification$Status"), (0, u "FAILED"), (0, u "Lcom/example/sherman/sherman/service/Verification$Status;"), (0, .methodref 36 49), (0, .nameAndType 50 51), (0, u "step"), (0, u "()Lcom/example/sherman/sherman/service/Step;"), (0, .methodref 53 54), (0, .class_ 55), (0, .nameAndType 56 57), (0, u "java/util/Optional"), (0, u "of"), (0, u "(Ljava/lang/Object;)Ljava/util/Optional;"), (0, .methodref 53 59), (0, .nameAndType 60 61), (0, u "empty"), (0, u "()Ljava/util/Optional;"), (15, u "(Ljava/util/List;Ljava/util/List;)V"), (4, u "refusedAt")] 32

def k22c0 : Code := { maxStack := 2, maxLocals := 3, code := prog_13_method_1_code, exceptionTable := #[], attributes := #[] }
def k22m0 : Method := { name := "<init>", desc := "(Ljava/util/List;Ljava/util/List;)V", sig := { parameters := [(.object "java/util/List"), (.object "java/util/List")], returnType := none }, accessFlags := 1, code := some k22c0 }
def k22c1 : Code := { maxStack := 2, maxLocals := 3, code := prog_13_method_2_code, exceptionTable := #[], attributes := #[] }
def k22m1 : Method := { name := "refusedAt", desc := "()Ljava/util/Optional;", sig := { parameters := [], returnType := some (.object "java/util/Optional") }, accessFlags := 1, code := some k22c1 }
def k22 : Class := { plain "com/example/sherman/sherman/service/Verification" (some 10) with
  accessFlags := 49
  interfaces := #[]
  cf := some (fileOf pool22 14 #[.nestMembers #[36, 43]] #[⟨1, 5, 77, #[]⟩, ⟨1, 82, 61, #[]⟩] 49 2 #[] #[⟨18, 17, 18, #[]⟩, ⟨18, 21, 18, #[]⟩])
  fields := #[fq "outcomes" (.object "java/util/List") 18 0, fq "notes" (.object "java/util/List") 18 1]
  methods := #[k22m0, k22m1]
  instanceTypes := #[(.object "java/util/List"), (.object "java/util/List")]
  staticTypes := #[]
  resolved := Array.replicate 115 none
  statics := none }

def pool23 : Array CpInfo := pool [(2, .class_ 4), (1, u "java/lang/Object"), (0, u "<init>"), (0, u "()V"), (3, .class_ 11), (0, u "java/util/ImmutableCollections$List12"), (0, .class_ 13), (0, u "java/util/ImmutableCollections$ListN"), (3, u "Z"), (0, .class_ 19), (0, u "java/util/List"), (0, .interfaceMethodref 21 22), (0, .class_ 23), (0, .nameAndType 24 25), (0, u "java/util/Collection"), (0, u "isEmpty"), (0, u "()Z"), (0, .interfaceMethodref 18 27), (0, .nameAndType 28 29), (0, u "of"), (0, u "()Ljava/util/List;"), (0, .interfaceMethodref 21 31), (0, .nameAndType 32 33), (0, u "toArray"), (0, u "()[Ljava/lang/Object;"), (0, .interfaceMethodref 18 35), (0, .nameAndType 28 36), (0, u "([Ljava/lang/Object;)Ljava/util/List;"), (0, .methodref 38 39), (0, .class_ 40), (0, .nameAndType 41 42), (0, u "java/util/Objects"), (0, u "requireNonNull"), (0, u "(Ljava/lang/Object;)Ljava/lang/Object;"), (0, .methodref 12 44), (0, .nameAndType 5 45), (0, u "([Ljava/lang/Object;Z)V"), (1, .class_ 49), (1, u "java/util/ImmutableCollections"), (0, u "$assertionsDisabled"), (5, u "[Ljava/lang/Object;"), (5, u "EMPTY_LIST"), (0, u "Ljava/util/ImmutableCollections$ListN;"), (8, u "EMPTY_LIST_NULLS"), (22, u "SALT32L"), (0, u "J"), (2, u "REVERSE"), (6, u "archivedObjects"), (2, u "EMPTY"), (0, u "Ljava/lang/Object;"), (0, .class_ 112), (0, u "java/util/ImmutableCollections$SetN"), (5, u "EMPTY_SET"), (0, u "Ljava/util/ImmutableCollections$SetN;"), (0, .class_ 121), (0, u "java/util/ImmutableCollections$MapN"), (3, u "EMPTY_MAP"), (0, u "Ljava/util/ImmutableCollections$MapN;"), (4, u "EXPAND_FACTOR"), (0, u "I"), (9, u "listCopy"), (0, u "(Ljava/util/Collection;)Ljava/util/List;"), (7, u "listFromArray"), (17, .class_ 170), (0, u "java/util/ImmutableCollections$MapN$MapNIterator"), (0, .class_ 172), (0, u "java/util/ImmutableCollections$MapN$1"), (0, .class_ 174), (0, u "java/util/ImmutableCollections$Map1"), (0, .class_ 176), (0, u "java/util/ImmutableCollections$AbstractImmutableMap"), (0, .class_ 178), (0, u "java/util/ImmutableCollections$SetN$SetNIterator"), (0, .class_ 180), (0, u "java/util/ImmutableCollections$Set12"), (0, .class_ 182), (0, u "java/util/ImmutableCollections$Set12$1"), (0, .class_ 184), (0, u "java/util/ImmutableCollections$AbstractImmutableSet"), (0, .class_ 186), (0, u "java/util/ImmutableCollections$SubList"), (0, .class_ 188), (0, u "java/util/ImmutableCollections$ListItr"), (0, .class_ 190), (0, u "java/util/ImmutableCollections$AbstractImmutableList"), (0, .class_ 192), (0, u "java/util/ImmutableCollections$AbstractImmutableCollection"), (0, .class_ 194), (0, u "java/util/ImmutableCollections$Access"), (0, .class_ 196), (0, u "java/util/ImmutableCollections$Access$1")] 16

def k23m0 : Method := { name := "<init>", desc := "()V", sig := { parameters := [], returnType := none }, accessFlags := 2, code := none }
def k23c1 : Code := { maxStack := 1, maxLocals := 2, code := jdk_56_method_3_code, exceptionTable := #[], attributes := #[] }
def k23m1 : Method := { name := "listCopy", desc := "(Ljava/util/Collection;)Ljava/util/List;", sig := { parameters := [(.object "java/util/Collection")], returnType := some (.object "java/util/List") }, accessFlags := 8, code := some k23c1 }
def k23c2 : Code := { maxStack := 4, maxLocals := 3, code := jdk_56_method_4_code, exceptionTable := #[], attributes := #[] }
def k23m2 : Method := { name := "listFromArray", desc := "([Ljava/lang/Object;)Ljava/util/List;", sig := { parameters := [(.array (.object "java/lang/Object"))], returnType := some (.object "java/util/List") }, accessFlags := 136, code := some k23c2 }
def k23 : Class := { plain "java/util/ImmutableCollections" (some 0) with
  accessFlags := 32
  interfaces := #[]
  cf := some (fileOf pool23 47 #[.nestMembers #[120, 169, 171, 173, 175, 111, 177, 179, 181, 183, 12, 10, 185, 187, 189, 191, 193, 195]] #[⟨2, 5, 6, #[]⟩, ⟨8, 142, 143, #[]⟩, ⟨136, 151, 36, #[]⟩] 32 2 #[] #[⟨26, 95, 96, #[]⟩, ⟨26, 99, 17, #[]⟩, ⟨10, 106, 56, #[]⟩, ⟨26, 109, 110, #[]⟩, ⟨24, 62, 63, #[]⟩, ⟨24, 72, 63, #[]⟩, ⟨24, 118, 119, #[]⟩, ⟨24, 125, 126, #[]⟩, ⟨24, 131, 132, #[]⟩, ⟨4120, 50, 17, #[]⟩])
  fields := #[fq "SALT32L" .long 26 0, fq "REVERSE" .boolean 26 1, fq "archivedObjects" (.array (.object "java/lang/Object")) 10 2, fq "EMPTY" (.object "java/lang/Object") 26 3, fq "EMPTY_LIST" (.object "java/util/ImmutableCollections$ListN") 24 4, fq "EMPTY_LIST_NULLS" (.object "java/util/ImmutableCollections$ListN") 24 5, fq "EMPTY_SET" (.object "java/util/ImmutableCollections$SetN") 24 6, fq "EMPTY_MAP" (.object "java/util/ImmutableCollections$MapN") 24 7, fq "EXPAND_FACTOR" .int 24 8, fq "$assertionsDisabled" .boolean 4120 9]
  methods := #[k23m0, k23m1, k23m2]
  instanceTypes := #[]
  staticTypes := #[.long, .boolean, (.array (.object "java/lang/Object")), (.object "java/lang/Object"), (.object "java/util/ImmutableCollections$ListN"), (.object "java/util/ImmutableCollections$ListN"), (.object "java/util/ImmutableCollections$SetN"), (.object "java/util/ImmutableCollections$MapN"), .int, .boolean]
  resolved := Array.replicate 213 none
  statics := some 4 }

def pool24 : Array CpInfo := pool [(1, .methodref 2 3), (0, .class_ 4), (0, .nameAndType 5 6), (0, u "java/util/AbstractCollection"), (0, u "<init>"), (0, u "()V"), (1, .class_ 10), (1, u "java/util/ImmutableCollections"), (2, .class_ 14), (0, u "java/util/ImmutableCollections$AbstractImmutableCollection")] 41

def k24c0 : Code := { maxStack := 1, maxLocals := 1, code := jdk_47_method_1_code, exceptionTable := #[], attributes := #[] }
def k24m0 : Method := { name := "<init>", desc := "()V", sig := { parameters := [], returnType := none }, accessFlags := 0, code := some k24c0 }
def k24 : Class := { plain "java/util/ImmutableCollections$AbstractImmutableCollection" (some 15) with
  accessFlags := 1056
  interfaces := #[]
  cf := some (fileOf pool24 13 #[.nestHost 8] #[⟨0, 5, 6, #[]⟩] 1056 2 #[] #[])
  fields := #[]
  methods := #[k24m0]
  instanceTypes := #[]
  staticTypes := #[]
  resolved := Array.replicate 56 none
  statics := none }

def pool25 : Array CpInfo := pool [(1, .methodref 2 3), (0, .class_ 4), (0, .nameAndType 5 6), (0, u "java/util/ImmutableCollections$AbstractImmutableCollection"), (0, u "<init>"), (0, u "()V"), (1, .class_ 10), (1, u "java/util/ImmutableCollections"), (2, .methodref 14 15), (0, .class_ 16), (0, .nameAndType 17 18), (0, u "java/util/ImmutableCollections$AbstractImmutableList"), (0, u "size"), (0, u "()I"), (42, .class_ 62), (0, u "java/util/ImmutableCollections$ListItr"), (0, .methodref 61 64), (0, .nameAndType 5 65), (0, u "(Ljava/util/List;I)V"), (11, .class_ 78), (0, u "java/util/List"), (2, u "iterator"), (0, u "()Ljava/util/Iterator;"), (41, .class_ 125), (0, u "java/util/RandomAccess")] 70

def k25c0 : Code := { maxStack := 1, maxLocals := 1, code := jdk_46_method_1_code, exceptionTable := #[], attributes := #[] }
def k25m0 : Method := { name := "<init>", desc := "()V", sig := { parameters := [], returnType := none }, accessFlags := 0, code := some k25c0 }
def k25c1 : Code := { maxStack := 4, maxLocals := 1, code := jdk_46_method_10_code, exceptionTable := #[], attributes := #[] }
def k25m1 : Method := { name := "iterator", desc := "()Ljava/util/Iterator;", sig := { parameters := [], returnType := some (.object "java/util/Iterator") }, accessFlags := 1, code := some k25c1 }
def k25 : Class := { plain "java/util/ImmutableCollections$AbstractImmutableList" (some 24) with
  accessFlags := 1056
  interfaces := #[17, 19]
  cf := some (fileOf pool25 14 #[.nestHost 8] #[⟨0, 5, 6, #[]⟩, ⟨1, 81, 82, #[]⟩] 1056 2 #[77, 124] #[])
  fields := #[]
  methods := #[k25m0, k25m1]
  instanceTypes := #[]
  staticTypes := #[]
  resolved := Array.replicate 196 none
  statics := none }

def pool26 : Array CpInfo := pool [(1, .methodref 2 3), (0, .class_ 4), (0, .nameAndType 5 6), (0, u "java/util/ImmutableCollections$AbstractImmutableList"), (0, u "<init>"), (0, u "()V"), (0, .methodref 8 9), (0, .class_ 10), (0, .nameAndType 11 12), (0, u "java/util/Objects"), (0, u "requireNonNull"), (0, u "(Ljava/lang/Object;)Ljava/lang/Object;"), (0, .fieldref 14 15), (0, .class_ 16), (0, .nameAndType 17 18), (0, u "java/util/ImmutableCollections$List12"), (0, u "e0"), (0, u "Ljava/lang/Object;"), (0, .fieldref 20 21), (0, .class_ 22), (0, .nameAndType 23 18), (0, u "java/util/ImmutableCollections"), (0, u "EMPTY"), (0, .fieldref 14 25), (0, .nameAndType 26 18), (0, u "e1"), (24, u "size"), (0, u "()I"), (17, .class_ 71), (0, u "java/io/Serializable"), (4, u "(Ljava/lang/Object;)V"), (8, u "(Ljava/lang/Object;Ljava/lang/Object;)V"), (4, u "get"), (0, u "(I)Ljava/lang/Object;")] 33

def k26c0 : Code := { maxStack := 2, maxLocals := 2, code := jdk_44_method_1_code, exceptionTable := #[], attributes := #[] }
def k26m0 : Method := { name := "<init>", desc := "(Ljava/lang/Object;)V", sig := { parameters := [(.object "java/lang/Object")], returnType := none }, accessFlags := 0, code := some k26c0 }
def k26c1 : Code := { maxStack := 2, maxLocals := 3, code := jdk_44_method_2_code, exceptionTable := #[], attributes := #[] }
def k26m1 : Method := { name := "<init>", desc := "(Ljava/lang/Object;Ljava/lang/Object;)V", sig := { parameters := [(.object "java/lang/Object"), (.object "java/lang/Object")], returnType := none }, accessFlags := 0, code := some k26c1 }
def k26c2 : Code := { maxStack := 2, maxLocals := 1, code := jdk_44_method_3_code, exceptionTable := #[], attributes := #[] }
def k26m2 : Method := { name := "size", desc := "()I", sig := { parameters := [], returnType := some .int }, accessFlags := 1, code := some k26c2 }
def k26c3 : Code := { maxStack := 2, maxLocals := 2, code := jdk_44_method_5_code, exceptionTable := #[], attributes := #[] }
def k26m3 : Method := { name := "get", desc := "(I)Ljava/lang/Object;", sig := { parameters := [.int], returnType := some (.object "java/lang/Object") }, accessFlags := 1, code := some k26c3 }
def k26 : Class := { plain "java/util/ImmutableCollections$List12" (some 25) with
  accessFlags := 48
  interfaces := #[4]
  cf := some (fileOf pool26 14 #[.nestHost 20] #[⟨0, 5, 76, #[]⟩, ⟨0, 5, 85, #[]⟩, ⟨1, 51, 52, #[]⟩, ⟨1, 90, 91, #[]⟩] 48 2 #[70] #[⟨18, 17, 18, #[]⟩, ⟨18, 26, 18, #[]⟩])
  fields := #[fq "e0" (.object "java/lang/Object") 18 0, fq "e1" (.object "java/lang/Object") 18 1]
  methods := #[k26m0, k26m1, k26m2, k26m3]
  instanceTypes := #[(.object "java/lang/Object"), (.object "java/lang/Object")]
  staticTypes := #[]
  resolved := Array.replicate 125 none
  statics := none }

def pool27 : Array CpInfo := pool [(1, .methodref 2 3), (0, .class_ 4), (0, .nameAndType 5 6), (0, u "java/util/ImmutableCollections$AbstractImmutableList"), (0, u "<init>"), (0, u "()V"), (0, .fieldref 8 9), (0, .class_ 10), (0, .nameAndType 11 12), (0, u "java/util/ImmutableCollections$ListN"), (0, u "elements"), (0, u "[Ljava/lang/Object;"), (0, .fieldref 8 14), (0, .nameAndType 15 16), (0, u "allowNulls"), (0, u "Z"), (42, .class_ 60), (0, u "java/io/Serializable"), (4, u "([Ljava/lang/Object;Z)V"), (11, u "size"), (0, u "()I"), (0, u "get"), (0, u "(I)Ljava/lang/Object;"), (33, .class_ 115), (0, u "java/util/ImmutableCollections")] 3

def k27c0 : Code := { maxStack := 2, maxLocals := 3, code := jdk_45_method_1_code, exceptionTable := #[], attributes := #[] }
def k27m0 : Method := { name := "<init>", desc := "([Ljava/lang/Object;Z)V", sig := { parameters := [(.array (.object "java/lang/Object")), .boolean], returnType := none }, accessFlags := 2, code := some k27c0 }
def k27c1 : Code := { maxStack := 1, maxLocals := 1, code := jdk_45_method_3_code, exceptionTable := #[], attributes := #[] }
def k27m1 : Method := { name := "size", desc := "()I", sig := { parameters := [], returnType := some .int }, accessFlags := 1, code := some k27c1 }
def k27c2 : Code := { maxStack := 2, maxLocals := 2, code := jdk_45_method_4_code, exceptionTable := #[], attributes := #[] }
def k27m2 : Method := { name := "get", desc := "(I)Ljava/lang/Object;", sig := { parameters := [.int], returnType := some (.object "java/lang/Object") }, accessFlags := 1, code := some k27c2 }
def k27 : Class := { plain "java/util/ImmutableCollections$ListN" (some 25) with
  accessFlags := 48
  interfaces := #[4]
  cf := some (fileOf pool27 8 #[.nestHost 114] #[⟨2, 5, 65, #[]⟩, ⟨1, 77, 78, #[]⟩, ⟨1, 79, 80, #[]⟩] 48 2 #[59] #[⟨18, 11, 12, #[]⟩, ⟨18, 15, 16, #[]⟩])
  fields := #[fq "elements" (.array (.object "java/lang/Object")) 18 0, fq "allowNulls" .boolean 18 1]
  methods := #[k27m0, k27m1, k27m2]
  instanceTypes := #[(.array (.object "java/lang/Object")), .boolean]
  staticTypes := #[]
  resolved := Array.replicate 119 none
  statics := none }

def pool28 : Array CpInfo := pool [(16, .class_ 18), (1, u "java/util/Iterator"), (0, u "hasNext"), (0, u "()Z"), (2, u "next"), (0, u "()Ljava/lang/Object;"), (6, .class_ 32), (0, u "java/lang/Object")] 20

def k28m0 : Method := { name := "hasNext", desc := "()Z", sig := { parameters := [], returnType := some .boolean }, accessFlags := 1025, code := none }
def k28m1 : Method := { name := "next", desc := "()Ljava/lang/Object;", sig := { parameters := [], returnType := some (.object "java/lang/Object") }, accessFlags := 1025, code := none }
def k28 : Class := { plain "java/util/Iterator" (some 0) with
  accessFlags := 1537
  interfaces := #[]
  cf := some (fileOf pool28 16 #[] #[⟨1025, 19, 20, #[]⟩, ⟨1025, 23, 24, #[]⟩] 1537 31 #[] #[])
  fields := #[]
  methods := #[k28m0, k28m1]
  instanceTypes := #[]
  staticTypes := #[]
  resolved := Array.replicate 53 none
  statics := none }

def pool29 : Array CpInfo := pool [(1, .class_ 2), (0, u "java/util/ListIterator"), (0, .class_ 4), (0, u "java/lang/Object"), (0, .class_ 6), (0, u "java/util/Iterator")] 20

def k29 : Class := { plain "java/util/ListIterator" (some 0) with
  accessFlags := 1537
  interfaces := #[28]
  cf := some (fileOf pool29 1 #[] #[] 1537 3 #[5] #[])
  fields := #[]
  methods := #[]
  instanceTypes := #[]
  staticTypes := #[]
  resolved := Array.replicate 27 none
  statics := none }

def pool30 : Array CpInfo := pool [(1, .methodref 2 3), (0, .class_ 4), (0, .nameAndType 5 6), (0, u "java/lang/Object"), (0, u "<init>"), (0, u "()V"), (0, .fieldref 8 9), (0, .class_ 10), (0, .nameAndType 11 12), (0, u "java/util/ImmutableCollections$ListItr"), (0, u "list"), (0, u "Ljava/util/List;"), (0, .fieldref 8 14), (0, .nameAndType 15 16), (0, u "size"), (0, u "I"), (0, .fieldref 8 18), (0, .nameAndType 19 16), (0, u "cursor"), (0, .fieldref 8 21), (0, .nameAndType 22 23), (0, u "isListIterator"), (0, u "Z"), (0, .interfaceMethodref 25 26), (0, .class_ 27), (0, .nameAndType 28 29), (0, u "java/util/List"), (0, u "get"), (0, u "(I)Ljava/lang/Object;"), (6, .class_ 38), (1, u "java/util/ImmutableCollections"), (2, .class_ 42), (0, u "java/util/ListIterator"), (4, u "(Ljava/util/List;I)V"), (11, u "hasNext"), (0, u "()Z"), (1, u "next"), (0, u "()Ljava/lang/Object;")] 22

def k30c0 : Code := { maxStack := 2, maxLocals := 3, code := jdk_53_method_1_code, exceptionTable := #[], attributes := #[] }
def k30m0 : Method := { name := "<init>", desc := "(Ljava/util/List;I)V", sig := { parameters := [(.object "java/util/List"), .int], returnType := none }, accessFlags := 0, code := some k30c0 }
def k30c1 : Code := { maxStack := 2, maxLocals := 1, code := jdk_53_method_3_code, exceptionTable := #[], attributes := #[] }
def k30m1 : Method := { name := "hasNext", desc := "()Z", sig := { parameters := [], returnType := some .boolean }, accessFlags := 1, code := some k30c1 }
def k30c2 : Code := { maxStack := 3, maxLocals := 3, code := jdk_53_method_4_code, exceptionTable := #[{ startPc := 0, endPc := 24, handlerPc := 25, catchType := 30 }], attributes := #[] }
def k30m2 : Method := { name := "next", desc := "()Ljava/lang/Object;", sig := { parameters := [], returnType := some (.object "java/lang/Object") }, accessFlags := 1, code := some k30c2 }
def k30 : Class := { plain "java/util/ImmutableCollections$ListItr" (some 0) with
  accessFlags := 48
  interfaces := #[29]
  cf := some (fileOf pool30 8 #[.nestHost 36] #[⟨0, 5, 47, #[]⟩, ⟨1, 59, 60, #[]⟩, ⟨1, 62, 63, #[]⟩] 48 2 #[41] #[⟨18, 11, 12, #[]⟩, ⟨18, 15, 16, #[]⟩, ⟨18, 22, 23, #[]⟩, ⟨2, 19, 16, #[]⟩])
  fields := #[fq "list" (.object "java/util/List") 18 0, fq "size" .int 18 1, fq "isListIterator" .boolean 18 2, fq "cursor" .int 2 3]
  methods := #[k30m0, k30m1, k30m2]
  instanceTypes := #[(.object "java/util/List"), .int, .boolean, .int]
  staticTypes := #[]
  resolved := Array.replicate 86 none
  statics := none }

def pool31 : Array CpInfo := pool [(1, .fieldref 2 3), (0, .class_ 4), (0, .nameAndType 5 6), (0, u "java/util/Optional"), (0, u "EMPTY"), (0, u "Ljava/util/Optional;"), (0, .methodref 8 9), (0, .class_ 10), (0, .nameAndType 11 12), (0, u "java/lang/Object"), (0, u "<init>"), (0, u "()V"), (0, .fieldref 2 14), (0, .nameAndType 15 16), (0, u "value"), (0, u "Ljava/lang/Object;"), (0, .methodref 18 19), (0, .class_ 20), (0, .nameAndType 21 22), (0, u "java/util/Objects"), (0, u "requireNonNull"), (0, u "(Ljava/lang/Object;)Ljava/lang/Object;"), (0, .methodref 2 24), (0, .nameAndType 11 25), (0, u "(Ljava/lang/Object;)V"), (19, u "isEmpty"), (0, u "()Z"), (8, u "empty"), (0, u "()Ljava/util/Optional;"), (8, u "(Ljava/lang/Object;)Ljava/util/Optional;"), (2, u "isPresent"), (4, u "get"), (0, u "()Ljava/lang/Object;"), (7, u "of")] 104

def k31c0 : Code := { maxStack := 1, maxLocals := 1, code := jdk_32_method_1_code, exceptionTable := #[], attributes := #[] }
def k31m0 : Method := { name := "empty", desc := "()Ljava/util/Optional;", sig := { parameters := [], returnType := some (.object "java/util/Optional") }, accessFlags := 9, code := some k31c0 }
def k31c1 : Code := { maxStack := 2, maxLocals := 2, code := jdk_32_method_2_code, exceptionTable := #[], attributes := #[] }
def k31m1 : Method := { name := "<init>", desc := "(Ljava/lang/Object;)V", sig := { parameters := [(.object "java/lang/Object")], returnType := none }, accessFlags := 2, code := some k31c1 }
def k31c2 : Code := { maxStack := 3, maxLocals := 1, code := jdk_32_method_3_code, exceptionTable := #[], attributes := #[] }
def k31m2 : Method := { name := "of", desc := "(Ljava/lang/Object;)Ljava/util/Optional;", sig := { parameters := [(.object "java/lang/Object")], returnType := some (.object "java/util/Optional") }, accessFlags := 9, code := some k31c2 }
def k31c3 : Code := { maxStack := 3, maxLocals := 1, code := jdk_32_method_5_code, exceptionTable := #[], attributes := #[] }
def k31m3 : Method := { name := "get", desc := "()Ljava/lang/Object;", sig := { parameters := [], returnType := some (.object "java/lang/Object") }, accessFlags := 1, code := some k31c3 }
def k31c4 : Code := { maxStack := 1, maxLocals := 1, code := jdk_32_method_6_code, exceptionTable := #[], attributes := #[] }
def k31m4 : Method := { name := "isPresent", desc := "()Z", sig := { parameters := [], returnType := some .boolean }, accessFlags := 1, code := some k31c4 }
def k31c5 : Code := { maxStack := 1, maxLocals := 1, code := jdk_32_method_7_code, exceptionTable := #[], attributes := #[] }
def k31m5 : Method := { name := "isEmpty", desc := "()Z", sig := { parameters := [], returnType := some .boolean }, accessFlags := 1, code := some k31c5 }
def k31 : Class := { plain "java/util/Optional" (some 0) with
  accessFlags := 49
  interfaces := #[]
  cf := some (fileOf pool31 2 #[] #[⟨9, 55, 56, #[]⟩, ⟨2, 11, 25, #[]⟩, ⟨9, 82, 65, #[]⟩, ⟨1, 73, 74, #[]⟩, ⟨1, 68, 46, #[]⟩, ⟨1, 45, 46, #[]⟩] 49 8 #[] #[⟨26, 5, 6, #[]⟩, ⟨18, 15, 16, #[]⟩])
  fields := #[fq "EMPTY" (.object "java/util/Optional") 26 0, fq "value" (.object "java/lang/Object") 18 0]
  methods := #[k31m0, k31m1, k31m2, k31m3, k31m4, k31m5]
  instanceTypes := #[(.object "java/lang/Object")]
  staticTypes := #[(.object "java/util/Optional")]
  resolved := Array.replicate 187 none
  statics := some 5 }

def pool32 : Array CpInfo := pool [(1, .class_ 2), (0, u "java/lang/Math"), (1, .class_ 6), (1, u "java/lang/Object"), (0, u "<init>"), (0, u "()V"), (89, .class_ 100), (1, u "java/lang/Math$RandomNumberGeneratorHolder"), (71, u "negativeZeroFloatBits"), (0, u "J"), (2, u "negativeZeroDoubleBits"), (21, u "max"), (2, u "min"), (43, u "$assertionsDisabled"), (0, u "Z"), (88, u "(II)I"), (2, u "twoToTheDoubleScaleDown"), (0, u "D"), (4, u "twoToTheDoubleScaleUp"), (9, u "E"), (3, u "PI"), (2, u "TAU"), (2, u "DEGREES_TO_RADIANS"), (0, u "RADIANS_TO_DEGREES")] 94

def k32m0 : Method := { name := "<init>", desc := "()V", sig := { parameters := [], returnType := none }, accessFlags := 2, code := none }
def k32c1 : Code := { maxStack := 2, maxLocals := 2, code := jdk_29_method_65_code, exceptionTable := #[], attributes := #[] }
def k32m1 : Method := { name := "max", desc := "(II)I", sig := { parameters := [.int, .int], returnType := some .int }, accessFlags := 9, code := some k32c1 }
def k32c2 : Code := { maxStack := 2, maxLocals := 2, code := jdk_29_method_69_code, exceptionTable := #[], attributes := #[] }
def k32m2 : Method := { name := "min", desc := "(II)I", sig := { parameters := [.int, .int], returnType := some .int }, accessFlags := 9, code := some k32c2 }
def k32 : Class := { plain "java/lang/Math" (some 0) with
  accessFlags := 49
  interfaces := #[]
  cf := some (fileOf pool32 1 #[.nestMembers #[98]] #[⟨2, 7, 8, #[]⟩, ⟨9, 198, 335, #[]⟩, ⟨9, 201, 335, #[]⟩] 49 4 #[] #[⟨25, 354, 339, #[]⟩, ⟨25, 358, 339, #[]⟩, ⟨25, 361, 339, #[]⟩, ⟨26, 364, 339, #[]⟩, ⟨26, 365, 339, #[]⟩, ⟨26, 172, 173, #[]⟩, ⟨26, 176, 173, #[]⟩, ⟨8, 344, 339, #[]⟩, ⟨8, 338, 339, #[]⟩, ⟨4120, 245, 246, #[]⟩])
  fields := #[fq "E" .double 25 0, fq "PI" .double 25 1, fq "TAU" .double 25 2, fq "DEGREES_TO_RADIANS" .double 26 3, fq "RADIANS_TO_DEGREES" .double 26 4, fq "negativeZeroFloatBits" .long 26 5, fq "negativeZeroDoubleBits" .long 26 6, fq "twoToTheDoubleScaleUp" .double 8 7, fq "twoToTheDoubleScaleDown" .double 8 8, fq "$assertionsDisabled" .boolean 4120 9]
  methods := #[k32m0, k32m1, k32m2]
  instanceTypes := #[]
  staticTypes := #[.double, .double, .double, .double, .double, .long, .long, .double, .double, .boolean]
  resolved := Array.replicate 460 none
  statics := none }

def pool33 : Array CpInfo := pool [(4, .class_ 6), (1, u "java/lang/Object"), (0, u "<init>"), (0, u "()V"), (5, .class_ 16), (1, u "java/lang/StringLatin1"), (73, u "canEncode"), (14, u "(C)Z"), (15, u "$assertionsDisabled"), (0, u "Z"), (98, .class_ 223), (1, u "java/lang/StringLatin1$LinesSpliterator"), (156, u "toBytes"), (1, u "(C)[B"), (7, .class_ 391), (0, u "java/lang/StringLatin1$CharsSpliterator")] 3

def k33m0 : Method := { name := "<init>", desc := "()V", sig := { parameters := [], returnType := none }, accessFlags := 0, code := none }
def k33c1 : Code := { maxStack := 2, maxLocals := 1, code := jdk_43_method_3_code, exceptionTable := #[], attributes := #[] }
def k33m1 : Method := { name := "canEncode", desc := "(C)Z", sig := { parameters := [.char], returnType := some .boolean }, accessFlags := 9, code := some k33c1 }
def k33c2 : Code := { maxStack := 4, maxLocals := 1, code := jdk_43_method_46_code, exceptionTable := #[], attributes := #[] }
def k33m2 : Method := { name := "toBytes", desc := "(C)[B", sig := { parameters := [.char], returnType := some (.array .byte) }, accessFlags := 9, code := some k33c2 }
def k33 : Class := { plain "java/lang/StringLatin1" (some 0) with
  accessFlags := 48
  interfaces := #[]
  cf := some (fileOf pool33 14 #[.nestMembers #[390, 221]] #[⟨0, 7, 8, #[]⟩, ⟨9, 90, 105, #[]⟩, ⟨9, 380, 382, #[]⟩] 48 4 #[] #[⟨4120, 121, 122, #[]⟩])
  fields := #[fq "$assertionsDisabled" .boolean 4120 0]
  methods := #[k33m0, k33m1, k33m2]
  instanceTypes := #[]
  staticTypes := #[.boolean]
  resolved := Array.replicate 395 none
  statics := none }

def pool34 : Array CpInfo := pool [(2, .class_ 4), (1, u "java/lang/Object"), (0, u "<init>"), (0, u "()V"), (7, .class_ 16), (1, u "java/util/Arrays"), (57, .class_ 76), (1, u "java/util/Arrays$NaturalOrder"), (9, .methodref 2 87), (0, .nameAndType 88 89), (0, u "getClass"), (0, u "()Ljava/lang/Class;"), (20, .class_ 111), (0, u "[Ljava/lang/Object;"), (1, .class_ 115), (1, u "java/util/Arrays$LegacyMergeSort"), (1, u "Z"), (32, .methodref 151 152), (0, .class_ 153), (0, .nameAndType 154 155), (0, u "java/lang/System"), (0, u "arraycopy"), (0, u "(Ljava/lang/Object;ILjava/lang/Object;II)V"), (144, .methodref 14 301), (0, .nameAndType 302 303), (0, u "copyOf"), (0, u "([Ljava/lang/Object;ILjava/lang/Class;)[Ljava/lang/Object;"), (0, .methodref 305 306), (0, .class_ 307), (0, .nameAndType 308 309), (0, u "java/lang/Math"), (0, u "min"), (0, u "(II)I"), (65, .class_ 376), (0, u "java/util/Arrays$ArrayList"), (68, u "$assertionsDisabled"), (269, u "MIN_ARRAY_SORT_GRAN"), (0, u "I"), (2, u "INSERTIONSORT_THRESHOLD"), (140, u "([Ljava/lang/Object;I)[Ljava/lang/Object;"), (114, .class_ 976), (0, u "java/util/Arrays$ArrayItr")] 52

def k34m0 : Method := { name := "<init>", desc := "()V", sig := { parameters := [], returnType := none }, accessFlags := 2, code := none }
def k34c1 : Code := { maxStack := 3, maxLocals := 2, code := jdk_65_method_119_code, exceptionTable := #[], attributes := #[] }
def k34m1 : Method := { name := "copyOf", desc := "([Ljava/lang/Object;I)[Ljava/lang/Object;", sig := { parameters := [(.array (.object "java/lang/Object")), .int], returnType := some (.array (.object "java/lang/Object")) }, accessFlags := 9, code := some k34c1 }
def k34c2 : Code := { maxStack := 6, maxLocals := 4, code := jdk_65_method_120_code, exceptionTable := #[], attributes := #[] }
def k34m2 : Method := { name := "copyOf", desc := "([Ljava/lang/Object;ILjava/lang/Class;)[Ljava/lang/Object;", sig := { parameters := [(.array (.object "java/lang/Object")), .int, (.object "java/lang/Class")], returnType := some (.array (.object "java/lang/Object")) }, accessFlags := 9, code := some k34c2 }
def k34 : Class := { plain "java/util/Arrays" (some 0) with
  accessFlags := 49
  interfaces := #[]
  cf := some (fileOf pool34 14 #[.nestMembers #[975, 375, 113, 74]] #[⟨2, 5, 6, #[]⟩, ⟨9, 302, 860, #[]⟩, ⟨9, 302, 303, #[]⟩] 49 2 #[] #[⟨26, 715, 716, #[]⟩, ⟨26, 719, 716, #[]⟩, ⟨4120, 445, 117, #[]⟩])
  fields := #[fq "MIN_ARRAY_SORT_GRAN" .int 26 0, fq "INSERTIONSORT_THRESHOLD" .int 26 1, fq "$assertionsDisabled" .boolean 4120 2]
  methods := #[k34m0, k34m1, k34m2]
  instanceTypes := #[]
  staticTypes := #[.int, .int, .boolean]
  resolved := Array.replicate 1029 none
  statics := none }

def pool35 : Array CpInfo := pool [(2, .class_ 4), (1, u "java/lang/Object"), (0, u "<init>"), (0, u "()V"), (1, .class_ 10), (1, u "java/lang/System"), (0, u "allowSecurityManager"), (0, u "I"), (16, u "cons"), (0, u "Ljava/io/Console;"), (77, .class_ 110), (1, u "java/lang/System$CallersHolder"), (43, u "initialErrStream"), (0, u "Ljava/io/PrintStream;"), (19, u "security"), (0, u "Ljava/lang/SecurityManager;"), (31, .class_ 209), (0, u "java/lang/System$1"), (7, u "props"), (0, u "Ljava/util/Properties;"), (2, u "lineSeparator"), (0, u "Ljava/lang/String;"), (96, .class_ 321), (1, u "java/lang/System$LoggerFinder"), (5, .class_ 328), (0, u "java/lang/System$Logger"), (67, u "err"), (2, u "out"), (91, u "notSupportedJnuEncoding"), (15, u "in"), (17, u "initialIn"), (0, u "Ljava/io/InputStream;"), (35, u "bootLayer"), (0, u "Ljava/lang/ModuleLayer;"), (99, .class_ 664), (0, u "java/lang/System$2"), (9, u "NEVER"), (2, u "MAYBE"), (49, u "arraycopy"), (0, u "(Ljava/lang/Object;ILjava/lang/Object;II)V"), (72, .class_ 802), (0, u "java/lang/System$Logger$Level")] 31

def k35m0 : Method := { name := "<init>", desc := "()V", sig := { parameters := [], returnType := none }, accessFlags := 2, code := none }
def k35m1 : Method := { name := "arraycopy", desc := "(Ljava/lang/Object;ILjava/lang/Object;II)V", sig := { parameters := [(.object "java/lang/Object"), .int, (.object "java/lang/Object"), .int, .int], returnType := none }, accessFlags := 265, code := none }
def k35 : Class := { plain "java/lang/System" (some 0) with
  accessFlags := 49
  interfaces := #[]
  cf := some (fileOf pool35 8 #[.nestMembers #[319, 327, 801, 108, 663, 208]] #[⟨2, 5, 6, #[]⟩, ⟨265, 727, 728, #[]⟩] 49 2 #[] #[⟨25, 507, 526, #[]⟩, ⟨25, 399, 155, #[]⟩, ⟨25, 396, 155, #[]⟩, ⟨10, 525, 526, #[]⟩, ⟨26, 674, 12, #[]⟩, ⟨26, 677, 12, #[]⟩, ⟨10, 11, 12, #[]⟩, ⟨74, 175, 176, #[]⟩, ⟨10, 491, 222, #[]⟩, ⟨74, 29, 30, #[]⟩, ⟨74, 154, 155, #[]⟩, ⟨10, 217, 218, #[]⟩, ⟨10, 221, 222, #[]⟩, ⟨8, 562, 563, #[]⟩])
  fields := #[fq "in" (.object "java/io/InputStream") 25 0, fq "out" (.object "java/io/PrintStream") 25 1, fq "err" (.object "java/io/PrintStream") 25 2, fq "initialIn" (.object "java/io/InputStream") 10 3, fq "NEVER" .int 26 4, fq "MAYBE" .int 26 5, fq "allowSecurityManager" .int 10 6, fq "security" (.object "java/lang/SecurityManager") 74 7, fq "notSupportedJnuEncoding" (.object "java/lang/String") 10 8, fq "cons" (.object "java/io/Console") 74 9, fq "initialErrStream" (.object "java/io/PrintStream") 74 10, fq "props" (.object "java/util/Properties") 10 11, fq "lineSeparator" (.object "java/lang/String") 10 12, fq "bootLayer" (.object "java/lang/ModuleLayer") 8 13]
  methods := #[k35m0, k35m1]
  instanceTypes := #[]
  staticTypes := #[(.object "java/io/InputStream"), (.object "java/io/PrintStream"), (.object "java/io/PrintStream"), (.object "java/io/InputStream"), .int, .int, .int, (.object "java/lang/SecurityManager"), (.object "java/lang/String"), (.object "java/io/Console"), (.object "java/io/PrintStream"), (.object "java/util/Properties"), (.object "java/lang/String"), (.object "java/lang/ModuleLayer")]
  resolved := Array.replicate 834 none
  statics := none }

def pool36 : Array CpInfo := pool [(2, .class_ 4), (1, u "java/lang/Object"), (0, u "<init>"), (0, u "()V"), (35, .class_ 44), (1, u "java/util/Objects"), (0, u "requireNonNull"), (0, u "(Ljava/lang/Object;)Ljava/lang/Object;")] 137

def k36m0 : Method := { name := "<init>", desc := "()V", sig := { parameters := [], returnType := none }, accessFlags := 2, code := none }
def k36c1 : Code := { maxStack := 2, maxLocals := 1, code := jdk_31_method_10_code, exceptionTable := #[], attributes := #[] }
def k36m1 : Method := { name := "requireNonNull", desc := "(Ljava/lang/Object;)Ljava/lang/Object;", sig := { parameters := [(.object "java/lang/Object")], returnType := some (.object "java/lang/Object") }, accessFlags := 9, code := some k36c1 }
def k36 : Class := { plain "java/util/Objects" (some 0) with
  accessFlags := 49
  interfaces := #[]
  cf := some (fileOf pool36 42 #[] #[⟨2, 5, 6, #[]⟩, ⟨9, 45, 46, #[]⟩] 49 2 #[] #[])
  fields := #[]
  methods := #[k36m0, k36m1]
  instanceTypes := #[]
  staticTypes := #[]
  resolved := Array.replicate 184 none
  statics := none }

def pool37 : Array CpInfo := pool [(2, .class_ 4), (1, u "java/lang/Object"), (0, u "<init>"), (0, u "()V"), (17, .class_ 26), (1, u "jdk/internal/util/Preconditions"), (28, .class_ 56), (0, u "jdk/internal/util/Preconditions$4"), (57, .class_ 115), (0, u "jdk/internal/util/Preconditions$1"), (7, u "SIOOBE_FORMATTER"), (0, u "Ljava/util/function/BiFunction;"), (0, .class_ 126), (0, u "jdk/internal/util/Preconditions$2"), (3, u "AIOOBE_FORMATTER"), (0, .class_ 132), (0, u "jdk/internal/util/Preconditions$3"), (3, u "IOOBE_FORMATTER")] 57

def k37m0 : Method := { name := "<init>", desc := "()V", sig := { parameters := [], returnType := none }, accessFlags := 1, code := none }
def k37 : Class := { plain "jdk/internal/util/Preconditions" (some 0) with
  accessFlags := 33
  interfaces := #[]
  cf := some (fileOf pool37 24 #[.nestMembers #[55, 131, 125, 114]] #[⟨1, 5, 6, #[]⟩] 33 2 #[] #[⟨25, 123, 124, #[]⟩, ⟨25, 130, 124, #[]⟩, ⟨25, 136, 124, #[]⟩])
  fields := #[fq "SIOOBE_FORMATTER" (.object "java/util/function/BiFunction") 25 0, fq "AIOOBE_FORMATTER" (.object "java/util/function/BiFunction") 25 1, fq "IOOBE_FORMATTER" (.object "java/util/function/BiFunction") 25 2]
  methods := #[k37m0]
  instanceTypes := #[]
  staticTypes := #[(.object "java/util/function/BiFunction"), (.object "java/util/function/BiFunction"), (.object "java/util/function/BiFunction")]
  resolved := Array.replicate 194 none
  statics := some 6 }

def pool38 : Array CpInfo := pool [(9, u "<init>"), (6, .class_ 18), (1, u "java/lang/Object"), (0, u "()V"), (1, .class_ 23), (1, u "jdk/internal/util/ArraysSupport"), (0, u "LOG2_ARRAY_LONG_INDEX_SCALE"), (0, u "I"), (2, u "U"), (0, u "Ljdk/internal/misc/Unsafe;"), (8, u "BIG_ENDIAN"), (0, u "Z"), (8, u "LOG2_BYTE_BIT_SIZE"), (4, u "LOG2_ARRAY_INT_INDEX_SCALE"), (54, u "JLA"), (0, u "Ljdk/internal/access/JavaLangAccess;"), (11, u "LOG2_ARRAY_BOOLEAN_INDEX_SCALE"), (9, u "LOG2_ARRAY_BYTE_INDEX_SCALE"), (5, u "LOG2_ARRAY_CHAR_INDEX_SCALE"), (5, u "LOG2_ARRAY_SHORT_INDEX_SCALE"), (18, u "LOG2_ARRAY_FLOAT_INDEX_SCALE"), (24, u "LOG2_ARRAY_DOUBLE_INDEX_SCALE"), (89, u "T_BOOLEAN"), (2, u "T_CHAR"), (1, u "T_FLOAT"), (1, u "T_DOUBLE"), (1, u "T_BYTE"), (1, u "T_SHORT"), (1, u "T_INT"), (1, u "T_LONG"), (1, u "SOFT_MAX_ARRAY_LENGTH")] 83

def k38m0 : Method := { name := "<init>", desc := "()V", sig := { parameters := [], returnType := none }, accessFlags := 2, code := none }
def k38 : Class := { plain "jdk/internal/util/ArraysSupport" (some 0) with
  accessFlags := 33
  interfaces := #[]
  cf := some (fileOf pool38 21 #[] #[⟨2, 9, 19, #[]⟩] 33 16 #[] #[⟨24, 28, 29, #[]⟩, ⟨26, 38, 39, #[]⟩, ⟨25, 121, 25, #[]⟩, ⟨25, 131, 25, #[]⟩, ⟨25, 137, 25, #[]⟩, ⟨25, 143, 25, #[]⟩, ⟨25, 53, 25, #[]⟩, ⟨25, 24, 25, #[]⟩, ⟨25, 162, 25, #[]⟩, ⟨25, 187, 25, #[]⟩, ⟨26, 48, 25, #[]⟩, ⟨25, 277, 25, #[]⟩, ⟨25, 280, 25, #[]⟩, ⟨25, 282, 25, #[]⟩, ⟨25, 284, 25, #[]⟩, ⟨25, 286, 25, #[]⟩, ⟨25, 288, 25, #[]⟩, ⟨25, 290, 25, #[]⟩, ⟨25, 292, 25, #[]⟩, ⟨26, 108, 109, #[]⟩, ⟨25, 294, 25, #[]⟩])
  fields := #[fq "U" (.object "jdk/internal/misc/Unsafe") 24 0, fq "BIG_ENDIAN" .boolean 26 1, fq "LOG2_ARRAY_BOOLEAN_INDEX_SCALE" .int 25 2, fq "LOG2_ARRAY_BYTE_INDEX_SCALE" .int 25 3, fq "LOG2_ARRAY_CHAR_INDEX_SCALE" .int 25 4, fq "LOG2_ARRAY_SHORT_INDEX_SCALE" .int 25 5, fq "LOG2_ARRAY_INT_INDEX_SCALE" .int 25 6, fq "LOG2_ARRAY_LONG_INDEX_SCALE" .int 25 7, fq "LOG2_ARRAY_FLOAT_INDEX_SCALE" .int 25 8, fq "LOG2_ARRAY_DOUBLE_INDEX_SCALE" .int 25 9, fq "LOG2_BYTE_BIT_SIZE" .int 26 10, fq "T_BOOLEAN" .int 25 11, fq "T_CHAR" .int 25 12, fq "T_FLOAT" .int 25 13, fq "T_DOUBLE" .int 25 14, fq "T_BYTE" .int 25 15, fq "T_SHORT" .int 25 16, fq "T_INT" .int 25 17, fq "T_LONG" .int 25 18, fq "JLA" (.object "jdk/internal/access/JavaLangAccess") 26 19, fq "SOFT_MAX_ARRAY_LENGTH" .int 25 20]
  methods := #[k38m0]
  instanceTypes := #[]
  staticTypes := #[(.object "jdk/internal/misc/Unsafe"), .boolean, .int, .int, .int, .int, .int, .int, .int, .int, .int, .int, .int, .int, .int, .int, .int, .int, .int, (.object "jdk/internal/access/JavaLangAccess"), .int]
  resolved := Array.replicate 378 none
  statics := none }

def pool39 : Array CpInfo := pool [(1, u "java/lang/Class"), (0, .class_ 1), (0, u "java/lang/Object"), (0, .class_ 3)] 3

def k39 : Class := { plain "java/lang/Class" (some 0) with
  accessFlags := 49
  interfaces := #[]
  cf := some (fileOf pool39 2 #[] #[] 49 4 #[] #[])
  fields := #[]
  methods := #[]
  instanceTypes := #[]
  staticTypes := #[]
  resolved := Array.replicate 8 none
  statics := none }

def k40 : Class := { plain "byte" none with kind := .primitive 'B', accessFlags := 0x411 }
def k41 : Class := { plain "[B" (some 0) with kind := .array 40 .byte, interfaces := #[20, 4], accessFlags := 1041 }

def k42 : Class := { plain "int" none with kind := .primitive 'I', accessFlags := 0x411 }
def k43 : Class := { plain "[I" (some 0) with kind := .array 42 .int, interfaces := #[20, 4], accessFlags := 1041 }

def k44 : Class := { plain "[Ljava/lang/Object;" (some 0) with kind := .array 0 (.object "java/lang/Object"), interfaces := #[20, 4], accessFlags := 1041, mirror := some 7 }

def heap : Heap := #[{ cls := 6, slots := #[.ref 9, .ref 15, .ref 10, .null], vm := .statics 6 },
  { cls := 9, slots := #[.long 0, .int 1, .null, .int 0, .null, .int 0, .int 0], vm := .statics 9 },
  { cls := 12, slots := #[.ref 16, .ref 13, .ref 12, .ref 11, .ref 14, .ref 17, .ref 18, .ref 21, .ref 20, .ref 19, .null], vm := .statics 12 },
  { cls := 21, slots := #[.long 0, .int 0, .ref 23, .ref 24], vm := .statics 21 },
  { cls := 23, slots := #[.long 0, .int 0, .null, .ref 26, .ref 22, .null, .null, .null, .int 0, .int 1], vm := .statics 23 },
  { cls := 31, slots := #[.ref 25], vm := .statics 31 },
  { cls := 37, slots := #[.null, .null, .null], vm := .statics 37 },
  { cls := 39, slots := #[], vm := .mirror 44 },
  { cls := 44, slots := #[], vm := .none },
  { cls := 6, slots := #[.null, .int 0, .int 0], vm := .none },
  { cls := 6, slots := #[.null, .int 2, .int 0], vm := .none },
  { cls := 12, slots := #[.null, .int 0, .int 0, .null], vm := .none },
  { cls := 12, slots := #[.null, .int 0, .int 0, .null], vm := .none },
  { cls := 12, slots := #[.null, .int 0, .int 0, .null], vm := .none },
  { cls := 12, slots := #[.null, .int 0, .int 0, .null], vm := .none },
  { cls := 6, slots := #[.null, .int 1, .int 0], vm := .none },
  { cls := 12, slots := #[.null, .int 0, .int 0, .null], vm := .none },
  { cls := 12, slots := #[.null, .int 0, .int 0, .null], vm := .none },
  { cls := 12, slots := #[.null, .int 0, .int 0, .null], vm := .none },
  { cls := 12, slots := #[.null, .int 0, .int 0, .null], vm := .none },
  { cls := 12, slots := #[.null, .int 0, .int 0, .null], vm := .none },
  { cls := 12, slots := #[.null, .int 0, .int 0, .null], vm := .none },
  { cls := 27, slots := #[.ref 8, .int 0], vm := .none },
  { cls := 44, slots := #[], vm := .none },
  { cls := 44, slots := #[], vm := .none },
  { cls := 31, slots := #[.null], vm := .none },
  { cls := 0, slots := #[], vm := .none }]
def classes : Array Class := #[k0, k1, k2, k3, k4, k5, k6, k7, k8, k9, k10, k11, k12, k13, k14, k15, k16, k17, k18, k19, k20, k21, k22, k23, k24, k25, k26, k27, k28, k29, k30, k31, k32, k33, k34, k35, k36, k37, k38, k39, k40, k41, k42, k43, k44]
def interned : List (Array UInt16 × Addr) := []
def slotsUsed : Nat := 92
def theMethod : MethodId := ⟨1, 4⟩
def args0 : Array Value := #[.int 5, .int 5, .int 5, .int 5, .int 5]
def aboutOver (below : List Frame) : State where
  vm := { classes := classes, interned := interned.toArray }
  heap := heap
  slotsUsed := slotsUsed
  threads := #[{ frames := .invoking theMethod args0 :: below }]
def below0 : List Frame := [.native { method := ⟨0, 0⟩, args := #[] }]
def about1 : State := aboutOver below0
def p0 : Program := .bare "" "" ""
def e0 : Env := launch0.env 0 0 0
theorem w_frames : about1.frames = Frame.invoking theMethod args0 :: below0 := rfl
theorem w_args : argsFit about1.vm theMethod args0 = true := by decide +kernel
theorem w_heap : heapFits about1 = true := by decide +kernel
theorem w_runnable : about1.curStatus? = some .runnable := by decide +kernel
theorem w_alone : about1.alone = true := by decide +kernel
theorem w_named : about1.methodNamed? x = some theMethod := by decide +kernel
theorem w_hears : about1.hears theMethod below0 = true := by decide +kernel
theorem w_ripe : about1.ripe theMethod args0 below0 = true := by decide +kernel
theorem w_running : about1.status = .running := rfl
theorem w_room : about1.hasRoom e0.platform room_1 = true :=
  launch0.hasRoom_least _ room_1 (by decide +kernel) (by decide +kernel) (by decide +kernel) (by decide +kernel) (by decide +kernel) (by decide +kernel)
theorem allAtoms_all (ts : List Jvm.Cond) (a : Array Jvm.Value) (st : Jvm.State) : (allAtoms ts).before a st = ts.all (fun c => c.before a st) := by
  induction ts with
  | nil => rfl
  | cons c t ih =>
    show (Jvm.Cond.and c (allAtoms t)).before a st = _
    rw [Jvm.Cond.before_and, ih, List.all_cons]
def words1 : List Jvm.Cond := Jvm.Cond.code x code maxLocals ret :: tables_1
theorem code_word {y : MethodName} {bytes : ByteArray} {mx : Nat} {rt : Option FieldType} {a : Array Value} {s : State} {m : MethodId} {meth : Method} {c : Code} (h1 : s.methodNamed? y = some m) (h2 : s.vm.method? m = some meth) (h3 : meth.code = some c) (h4 : c.code = bytes)
    (h5 : (c.maxLocals == mx && c.exceptionTable.isEmpty && decide (c.maxStack ≤ mostOperands) && decide (meth.sig.returnType = rt) && !meth.locks && decide (parseMethodDescriptor y.desc = some meth.sig)) = true) : (Jvm.Cond.code y bytes mx rt).before a s = true := by
  simp only [Bool.and_eq_true, beq_iff_eq, Bool.not_eq_true', decide_eq_true_eq] at h5
  obtain ⟨⟨⟨⟨⟨g1, g2⟩, g3⟩, g4⟩, g5⟩, g6⟩ := h5
  simp [Cond.before, Cond.holds, Cond.value, h1, h2, h3, h4, g1, g2, g3, g4, g5, g6]
def isCode : Jvm.Cond → Bool
  | .code _ _ _ _ => true
  | _ => false
theorem all_split {L : List Jvm.Cond} {P : Jvm.Cond → Bool} (h1 : L.all (fun c => isCode c || P c) = true) (h2 : ∀ c ∈ L.filter isCode, P c = true) : L.all P = true := by
  refine List.all_eq_true.mpr fun c hc => ?_
  have h := List.all_eq_true.mp h1 c hc
  rcases Bool.eq_false_or_eq_true (isCode c) with hi | hi
  · exact h2 c (List.mem_filter.mpr ⟨hc, hi⟩)
  · simpa [hi] using h
theorem w_c0 : (Jvm.Cond.code x code maxLocals ret).before args0 about1 = true := code_word (m := ⟨1, 4⟩) (meth := k1m4) (c := k1c4) (by decide +kernel) rfl rfl rfl (by decide +kernel)
theorem w_c1 : (Jvm.Cond.code ({ cls := "com/example/sherman/sherman/service/VerificationRefusedAtPinLaw", name := "outcome", desc := "(I)Lcom/example/sherman/sherman/service/Verification$Outcome;" } : Jvm.MethodName) method_4_code (3 : Nat) (Option.some (Jvm.ClassFile.FieldType.object "com/example/sherman/sherman/service/Verification$Outcome"))).before args0 about1 = true := code_word (m := ⟨1, 3⟩) (meth := k1m3) (c := k1c3) (by decide +kernel) rfl rfl rfl (by decide +kernel)
theorem w_c2 : (Jvm.Cond.code ({ cls := "com/example/sherman/sherman/service/VerificationRefusedAtPinLaw", name := "status", desc := "(I)Lcom/example/sherman/sherman/service/Verification$Status;" } : Jvm.MethodName) method_3_code (2 : Nat) (Option.some (Jvm.ClassFile.FieldType.object "com/example/sherman/sherman/service/Verification$Status"))).before args0 about1 = true := code_word (m := ⟨1, 2⟩) (meth := k1m2) (c := k1c2) (by decide +kernel) rfl rfl rfl (by decide +kernel)
theorem w_c3 : (Jvm.Cond.code ({ cls := "com/example/sherman/sherman/service/VerificationRefusedAtPinLaw", name := "step", desc := "(I)Lcom/example/sherman/sherman/service/Step;" } : Jvm.MethodName) method_2_code (2 : Nat) (Option.some (Jvm.ClassFile.FieldType.object "com/example/sherman/sherman/service/Step"))).before args0 about1 = true := code_word (m := ⟨1, 1⟩) (meth := k1m1) (c := k1c1) (by decide +kernel) rfl rfl rfl (by decide +kernel)
theorem w_c4 : (Jvm.Cond.code ({ cls := "com/example/sherman/sherman/service/Verification$Outcome", name := "<init>", desc := "(Lcom/example/sherman/sherman/service/Step;Lcom/example/sherman/sherman/service/Verification$Status;Ljava/lang/String;)V" } : Jvm.MethodName) prog_14_method_1_code (4 : Nat) (Option.none : Option Jvm.ClassFile.FieldType)).before args0 about1 = true := code_word (m := ⟨11, 0⟩) (meth := k11m0) (c := k11c0) (by decide +kernel) rfl rfl rfl (by decide +kernel)
theorem w_c5 : (Jvm.Cond.code ({ cls := "java/lang/Record", name := "<init>", desc := "()V" } : Jvm.MethodName) jdk_30_method_1_code (1 : Nat) (Option.none : Option Jvm.ClassFile.FieldType)).before args0 about1 = true := code_word (m := ⟨10, 0⟩) (meth := k10m0) (c := k10c0) (by decide +kernel) rfl rfl rfl (by decide +kernel)
theorem w_c6 : (Jvm.Cond.code ({ cls := "java/lang/Object", name := "<init>", desc := "()V" } : Jvm.MethodName) object_method_1_code (1 : Nat) (Option.none : Option Jvm.ClassFile.FieldType)).before args0 about1 = true := code_word (m := ⟨0, 0⟩) (meth := k0m0) (c := k0c0) (by decide +kernel) rfl rfl rfl (by decide +kernel)
theorem w_c7 : (Jvm.Cond.code ({ cls := "java/util/ArrayList", name := "<init>", desc := "()V" } : Jvm.MethodName) jdk_38_method_2_code (1 : Nat) (Option.none : Option Jvm.ClassFile.FieldType)).before args0 about1 = true := code_word (m := ⟨21, 0⟩) (meth := k21m0) (c := k21c0) (by decide +kernel) rfl rfl rfl (by decide +kernel)
theorem w_c8 : (Jvm.Cond.code ({ cls := "java/util/AbstractList", name := "<init>", desc := "()V" } : Jvm.MethodName) jdk_39_method_1_code (1 : Nat) (Option.none : Option Jvm.ClassFile.FieldType)).before args0 about1 = true := code_word (m := ⟨18, 0⟩) (meth := k18m0) (c := k18c0) (by decide +kernel) rfl rfl rfl (by decide +kernel)
theorem w_c9 : (Jvm.Cond.code ({ cls := "java/util/AbstractCollection", name := "<init>", desc := "()V" } : Jvm.MethodName) jdk_22_method_1_code (1 : Nat) (Option.none : Option Jvm.ClassFile.FieldType)).before args0 about1 = true := code_word (m := ⟨15, 0⟩) (meth := k15m0) (c := k15c0) (by decide +kernel) rfl rfl rfl (by decide +kernel)
theorem w_c10 : (Jvm.Cond.code ({ cls := "com/example/sherman/sherman/service/Verification", name := "<init>", desc := "(Ljava/util/List;Ljava/util/List;)V" } : Jvm.MethodName) prog_13_method_1_code (3 : Nat) (Option.none : Option Jvm.ClassFile.FieldType)).before args0 about1 = true := code_word (m := ⟨22, 0⟩) (meth := k22m0) (c := k22c0) (by decide +kernel) rfl rfl rfl (by decide +kernel)
theorem w_c11 : (Jvm.Cond.code ({ cls := "java/util/List", name := "copyOf", desc := "(Ljava/util/Collection;)Ljava/util/List;" } : Jvm.MethodName) jdk_40_method_48_code (1 : Nat) (Option.some (Jvm.ClassFile.FieldType.object "java/util/List"))).before args0 about1 = true := code_word (m := ⟨17, 4⟩) (meth := k17m4) (c := k17c4) (by decide +kernel) rfl rfl rfl (by decide +kernel)
theorem w_c12 : (Jvm.Cond.code ({ cls := "java/util/ImmutableCollections", name := "listCopy", desc := "(Ljava/util/Collection;)Ljava/util/List;" } : Jvm.MethodName) jdk_56_method_3_code (2 : Nat) (Option.some (Jvm.ClassFile.FieldType.object "java/util/List"))).before args0 about1 = true := code_word (m := ⟨23, 1⟩) (meth := k23m1) (c := k23c1) (by decide +kernel) rfl rfl rfl (by decide +kernel)
theorem w_c13 : (Jvm.Cond.code ({ cls := "java/util/ArrayList", name := "isEmpty", desc := "()Z" } : Jvm.MethodName) jdk_38_method_9_code (1 : Nat) (Option.some Jvm.ClassFile.FieldType.boolean)).before args0 about1 = true := code_word (m := ⟨21, 3⟩) (meth := k21m3) (c := k21c3) (by decide +kernel) rfl rfl rfl (by decide +kernel)
theorem w_c14 : (Jvm.Cond.code ({ cls := "java/util/List", name := "of", desc := "()Ljava/util/List;" } : Jvm.MethodName) jdk_40_method_36_code (0 : Nat) (Option.some (Jvm.ClassFile.FieldType.object "java/util/List"))).before args0 about1 = true := code_word (m := ⟨17, 2⟩) (meth := k17m2) (c := k17c2) (by decide +kernel) rfl rfl rfl (by decide +kernel)
theorem w_c15 : (Jvm.Cond.code ({ cls := "com/example/sherman/sherman/service/Verification", name := "refusedAt", desc := "()Ljava/util/Optional;" } : Jvm.MethodName) prog_13_method_2_code (3 : Nat) (Option.some (Jvm.ClassFile.FieldType.object "java/util/Optional"))).before args0 about1 = true := code_word (m := ⟨22, 1⟩) (meth := k22m1) (c := k22c1) (by decide +kernel) rfl rfl rfl (by decide +kernel)
theorem w_c16 : (Jvm.Cond.code ({ cls := "java/util/ImmutableCollections$AbstractImmutableList", name := "iterator", desc := "()Ljava/util/Iterator;" } : Jvm.MethodName) jdk_46_method_10_code (1 : Nat) (Option.some (Jvm.ClassFile.FieldType.object "java/util/Iterator"))).before args0 about1 = true := code_word (m := ⟨25, 1⟩) (meth := k25m1) (c := k25c1) (by decide +kernel) rfl rfl rfl (by decide +kernel)
theorem w_c17 : (Jvm.Cond.code ({ cls := "java/util/ImmutableCollections$ListN", name := "size", desc := "()I" } : Jvm.MethodName) jdk_45_method_3_code (1 : Nat) (Option.some Jvm.ClassFile.FieldType.int)).before args0 about1 = true := code_word (m := ⟨27, 1⟩) (meth := k27m1) (c := k27c1) (by decide +kernel) rfl rfl rfl (by decide +kernel)
theorem w_c18 : (Jvm.Cond.code ({ cls := "java/util/ImmutableCollections$ListItr", name := "<init>", desc := "(Ljava/util/List;I)V" } : Jvm.MethodName) jdk_53_method_1_code (3 : Nat) (Option.none : Option Jvm.ClassFile.FieldType)).before args0 about1 = true := code_word (m := ⟨30, 0⟩) (meth := k30m0) (c := k30c0) (by decide +kernel) rfl rfl rfl (by decide +kernel)
theorem w_c19 : (Jvm.Cond.code ({ cls := "java/util/ImmutableCollections$ListItr", name := "hasNext", desc := "()Z" } : Jvm.MethodName) jdk_53_method_3_code (1 : Nat) (Option.some Jvm.ClassFile.FieldType.boolean)).before args0 about1 = true := code_word (m := ⟨30, 1⟩) (meth := k30m1) (c := k30c1) (by decide +kernel) rfl rfl rfl (by decide +kernel)
theorem w_c20 : (Jvm.Cond.code ({ cls := "java/util/Optional", name := "empty", desc := "()Ljava/util/Optional;" } : Jvm.MethodName) jdk_32_method_1_code (1 : Nat) (Option.some (Jvm.ClassFile.FieldType.object "java/util/Optional"))).before args0 about1 = true := code_word (m := ⟨31, 0⟩) (meth := k31m0) (c := k31c0) (by decide +kernel) rfl rfl rfl (by decide +kernel)
theorem w_c21 : (Jvm.Cond.code ({ cls := "java/util/Optional", name := "isEmpty", desc := "()Z" } : Jvm.MethodName) jdk_32_method_7_code (1 : Nat) (Option.some Jvm.ClassFile.FieldType.boolean)).before args0 about1 = true := code_word (m := ⟨31, 5⟩) (meth := k31m5) (c := k31c5) (by decide +kernel) rfl rfl rfl (by decide +kernel)
theorem w_c22 : (Jvm.Cond.code ({ cls := "java/util/ArrayList", name := "add", desc := "(Ljava/lang/Object;)Z" } : Jvm.MethodName) jdk_38_method_25_code (2 : Nat) (Option.some Jvm.ClassFile.FieldType.boolean)).before args0 about1 = true := code_word (m := ⟨21, 6⟩) (meth := k21m6) (c := k21c6) (by decide +kernel) rfl rfl rfl (by decide +kernel)
theorem w_c23 : (Jvm.Cond.code ({ cls := "java/util/ArrayList", name := "add", desc := "(Ljava/lang/Object;[Ljava/lang/Object;I)V" } : Jvm.MethodName) jdk_38_method_24_code (4 : Nat) (Option.none : Option Jvm.ClassFile.FieldType)).before args0 about1 = true := code_word (m := ⟨21, 5⟩) (meth := k21m5) (c := k21c5) (by decide +kernel) rfl rfl rfl (by decide +kernel)
theorem w_c24 : (Jvm.Cond.code ({ cls := "java/util/ArrayList", name := "grow", desc := "()[Ljava/lang/Object;" } : Jvm.MethodName) jdk_38_method_7_code (1 : Nat) (Option.some (Jvm.ClassFile.FieldType.array (Jvm.ClassFile.FieldType.object "java/lang/Object")))).before args0 about1 = true := code_word (m := ⟨21, 2⟩) (meth := k21m2) (c := k21c2) (by decide +kernel) rfl rfl rfl (by decide +kernel)
theorem w_c25 : (Jvm.Cond.code ({ cls := "java/util/ArrayList", name := "grow", desc := "(I)[Ljava/lang/Object;" } : Jvm.MethodName) jdk_38_method_6_code (4 : Nat) (Option.some (Jvm.ClassFile.FieldType.array (Jvm.ClassFile.FieldType.object "java/lang/Object")))).before args0 about1 = true := code_word (m := ⟨21, 1⟩) (meth := k21m1) (c := k21c1) (by decide +kernel) rfl rfl rfl (by decide +kernel)
theorem w_c26 : (Jvm.Cond.code ({ cls := "java/lang/Math", name := "max", desc := "(II)I" } : Jvm.MethodName) jdk_29_method_65_code (2 : Nat) (Option.some Jvm.ClassFile.FieldType.int)).before args0 about1 = true := code_word (m := ⟨32, 1⟩) (meth := k32m1) (c := k32c1) (by decide +kernel) rfl rfl rfl (by decide +kernel)
theorem w_c27 : (Jvm.Cond.code ({ cls := "java/lang/String", name := "valueOf", desc := "(C)Ljava/lang/String;" } : Jvm.MethodName) jdk_42_method_139_code (1 : Nat) (Option.some (Jvm.ClassFile.FieldType.object "java/lang/String"))).before args0 about1 = true := code_word (m := ⟨9, 1⟩) (meth := k9m1) (c := k9c1) (by decide +kernel) rfl rfl rfl (by decide +kernel)
theorem w_c28 : (Jvm.Cond.code ({ cls := "java/lang/StringLatin1", name := "canEncode", desc := "(C)Z" } : Jvm.MethodName) jdk_43_method_3_code (1 : Nat) (Option.some Jvm.ClassFile.FieldType.boolean)).before args0 about1 = true := code_word (m := ⟨33, 1⟩) (meth := k33m1) (c := k33c1) (by decide +kernel) rfl rfl rfl (by decide +kernel)
theorem w_c29 : (Jvm.Cond.code ({ cls := "java/lang/StringLatin1", name := "toBytes", desc := "(C)[B" } : Jvm.MethodName) jdk_43_method_46_code (1 : Nat) (Option.some (Jvm.ClassFile.FieldType.array Jvm.ClassFile.FieldType.byte))).before args0 about1 = true := code_word (m := ⟨33, 2⟩) (meth := k33m2) (c := k33c2) (by decide +kernel) rfl rfl rfl (by decide +kernel)
theorem w_c30 : (Jvm.Cond.code ({ cls := "java/lang/String", name := "<init>", desc := "([BB)V" } : Jvm.MethodName) jdk_42_method_151_code (3 : Nat) (Option.none : Option Jvm.ClassFile.FieldType)).before args0 about1 = true := code_word (m := ⟨9, 2⟩) (meth := k9m2) (c := k9c2) (by decide +kernel) rfl rfl rfl (by decide +kernel)
theorem w_c31 : (Jvm.Cond.code ({ cls := "java/util/ArrayList", name := "toArray", desc := "()[Ljava/lang/Object;" } : Jvm.MethodName) jdk_38_method_16_code (1 : Nat) (Option.some (Jvm.ClassFile.FieldType.array (Jvm.ClassFile.FieldType.object "java/lang/Object")))).before args0 about1 = true := code_word (m := ⟨21, 4⟩) (meth := k21m4) (c := k21c4) (by decide +kernel) rfl rfl rfl (by decide +kernel)
theorem w_c32 : (Jvm.Cond.code ({ cls := "java/util/Arrays", name := "copyOf", desc := "([Ljava/lang/Object;I)[Ljava/lang/Object;" } : Jvm.MethodName) jdk_65_method_119_code (2 : Nat) (Option.some (Jvm.ClassFile.FieldType.array (Jvm.ClassFile.FieldType.object "java/lang/Object")))).before args0 about1 = true := code_word (m := ⟨34, 1⟩) (meth := k34m1) (c := k34c1) (by decide +kernel) rfl rfl rfl (by decide +kernel)
theorem w_c33 : (Jvm.Cond.code ({ cls := "java/util/Arrays", name := "copyOf", desc := "([Ljava/lang/Object;ILjava/lang/Class;)[Ljava/lang/Object;" } : Jvm.MethodName) jdk_65_method_120_code (4 : Nat) (Option.some (Jvm.ClassFile.FieldType.array (Jvm.ClassFile.FieldType.object "java/lang/Object")))).before args0 about1 = true := code_word (m := ⟨34, 2⟩) (meth := k34m2) (c := k34c2) (by decide +kernel) rfl rfl rfl (by decide +kernel)
theorem w_c34 : (Jvm.Cond.code ({ cls := "java/lang/Math", name := "min", desc := "(II)I" } : Jvm.MethodName) jdk_29_method_69_code (2 : Nat) (Option.some Jvm.ClassFile.FieldType.int)).before args0 about1 = true := code_word (m := ⟨32, 2⟩) (meth := k32m2) (c := k32c2) (by decide +kernel) rfl rfl rfl (by decide +kernel)
theorem w_c35 : (Jvm.Cond.code ({ cls := "java/util/List", name := "of", desc := "([Ljava/lang/Object;)Ljava/util/List;" } : Jvm.MethodName) jdk_40_method_47_code (2 : Nat) (Option.some (Jvm.ClassFile.FieldType.object "java/util/List"))).before args0 about1 = true := code_word (m := ⟨17, 3⟩) (meth := k17m3) (c := k17c3) (by decide +kernel) rfl rfl rfl (by decide +kernel)
theorem w_c36 : (Jvm.Cond.code ({ cls := "java/util/ImmutableCollections", name := "listFromArray", desc := "([Ljava/lang/Object;)Ljava/util/List;" } : Jvm.MethodName) jdk_56_method_4_code (3 : Nat) (Option.some (Jvm.ClassFile.FieldType.object "java/util/List"))).before args0 about1 = true := code_word (m := ⟨23, 2⟩) (meth := k23m2) (c := k23c2) (by decide +kernel) rfl rfl rfl (by decide +kernel)
theorem w_c37 : (Jvm.Cond.code ({ cls := "java/util/Objects", name := "requireNonNull", desc := "(Ljava/lang/Object;)Ljava/lang/Object;" } : Jvm.MethodName) jdk_31_method_10_code (1 : Nat) (Option.some (Jvm.ClassFile.FieldType.object "java/lang/Object"))).before args0 about1 = true := code_word (m := ⟨36, 1⟩) (meth := k36m1) (c := k36c1) (by decide +kernel) rfl rfl rfl (by decide +kernel)
theorem w_c38 : (Jvm.Cond.code ({ cls := "java/util/ImmutableCollections$ListN", name := "<init>", desc := "([Ljava/lang/Object;Z)V" } : Jvm.MethodName) jdk_45_method_1_code (3 : Nat) (Option.none : Option Jvm.ClassFile.FieldType)).before args0 about1 = true := code_word (m := ⟨27, 0⟩) (meth := k27m0) (c := k27c0) (by decide +kernel) rfl rfl rfl (by decide +kernel)
theorem w_c39 : (Jvm.Cond.code ({ cls := "java/util/ImmutableCollections$AbstractImmutableList", name := "<init>", desc := "()V" } : Jvm.MethodName) jdk_46_method_1_code (1 : Nat) (Option.none : Option Jvm.ClassFile.FieldType)).before args0 about1 = true := code_word (m := ⟨25, 0⟩) (meth := k25m0) (c := k25c0) (by decide +kernel) rfl rfl rfl (by decide +kernel)
theorem w_c40 : (Jvm.Cond.code ({ cls := "java/util/ImmutableCollections$AbstractImmutableCollection", name := "<init>", desc := "()V" } : Jvm.MethodName) jdk_47_method_1_code (1 : Nat) (Option.none : Option Jvm.ClassFile.FieldType)).before args0 about1 = true := code_word (m := ⟨24, 0⟩) (meth := k24m0) (c := k24c0) (by decide +kernel) rfl rfl rfl (by decide +kernel)
theorem w_c41 : (Jvm.Cond.code ({ cls := "java/util/ImmutableCollections$List12", name := "<init>", desc := "(Ljava/lang/Object;)V" } : Jvm.MethodName) jdk_44_method_1_code (2 : Nat) (Option.none : Option Jvm.ClassFile.FieldType)).before args0 about1 = true := code_word (m := ⟨26, 0⟩) (meth := k26m0) (c := k26c0) (by decide +kernel) rfl rfl rfl (by decide +kernel)
theorem w_c42 : (Jvm.Cond.code ({ cls := "java/util/ImmutableCollections$ListN", name := "get", desc := "(I)Ljava/lang/Object;" } : Jvm.MethodName) jdk_45_method_4_code (2 : Nat) (Option.some (Jvm.ClassFile.FieldType.object "java/lang/Object"))).before args0 about1 = true := code_word (m := ⟨27, 2⟩) (meth := k27m2) (c := k27c2) (by decide +kernel) rfl rfl rfl (by decide +kernel)
theorem w_c43 : (Jvm.Cond.code ({ cls := "com/example/sherman/sherman/service/Verification$Outcome", name := "status", desc := "()Lcom/example/sherman/sherman/service/Verification$Status;" } : Jvm.MethodName) prog_14_method_6_code (1 : Nat) (Option.some (Jvm.ClassFile.FieldType.object "com/example/sherman/sherman/service/Verification$Status"))).before args0 about1 = true := code_word (m := ⟨11, 2⟩) (meth := k11m2) (c := k11c2) (by decide +kernel) rfl rfl rfl (by decide +kernel)
theorem w_c44 : (Jvm.Cond.code ({ cls := "com/example/sherman/sherman/service/Verification$Outcome", name := "step", desc := "()Lcom/example/sherman/sherman/service/Step;" } : Jvm.MethodName) prog_14_method_5_code (1 : Nat) (Option.some (Jvm.ClassFile.FieldType.object "com/example/sherman/sherman/service/Step"))).before args0 about1 = true := code_word (m := ⟨11, 1⟩) (meth := k11m1) (c := k11c1) (by decide +kernel) rfl rfl rfl (by decide +kernel)
theorem w_c45 : (Jvm.Cond.code ({ cls := "java/util/Optional", name := "of", desc := "(Ljava/lang/Object;)Ljava/util/Optional;" } : Jvm.MethodName) jdk_32_method_3_code (1 : Nat) (Option.some (Jvm.ClassFile.FieldType.object "java/util/Optional"))).before args0 about1 = true := code_word (m := ⟨31, 2⟩) (meth := k31m2) (c := k31c2) (by decide +kernel) rfl rfl rfl (by decide +kernel)
theorem w_c46 : (Jvm.Cond.code ({ cls := "java/util/Optional", name := "<init>", desc := "(Ljava/lang/Object;)V" } : Jvm.MethodName) jdk_32_method_2_code (2 : Nat) (Option.none : Option Jvm.ClassFile.FieldType)).before args0 about1 = true := code_word (m := ⟨31, 1⟩) (meth := k31m1) (c := k31c1) (by decide +kernel) rfl rfl rfl (by decide +kernel)
theorem w_c47 : (Jvm.Cond.code ({ cls := "java/util/Optional", name := "isPresent", desc := "()Z" } : Jvm.MethodName) jdk_32_method_6_code (1 : Nat) (Option.some Jvm.ClassFile.FieldType.boolean)).before args0 about1 = true := code_word (m := ⟨31, 4⟩) (meth := k31m4) (c := k31c4) (by decide +kernel) rfl rfl rfl (by decide +kernel)
theorem w_c48 : (Jvm.Cond.code ({ cls := "java/util/Optional", name := "get", desc := "()Ljava/lang/Object;" } : Jvm.MethodName) jdk_32_method_5_code (1 : Nat) (Option.some (Jvm.ClassFile.FieldType.object "java/lang/Object"))).before args0 about1 = true := code_word (m := ⟨31, 3⟩) (meth := k31m3) (c := k31c3) (by decide +kernel) rfl rfl rfl (by decide +kernel)
theorem w_c49 : (Jvm.Cond.code ({ cls := "java/util/ImmutableCollections$List12", name := "<init>", desc := "(Ljava/lang/Object;Ljava/lang/Object;)V" } : Jvm.MethodName) jdk_44_method_2_code (3 : Nat) (Option.none : Option Jvm.ClassFile.FieldType)).before args0 about1 = true := code_word (m := ⟨26, 1⟩) (meth := k26m1) (c := k26c1) (by decide +kernel) rfl rfl rfl (by decide +kernel)
theorem w_c50 : (Jvm.Cond.code ({ cls := "java/util/ImmutableCollections$List12", name := "size", desc := "()I" } : Jvm.MethodName) jdk_44_method_3_code (1 : Nat) (Option.some Jvm.ClassFile.FieldType.int)).before args0 about1 = true := code_word (m := ⟨26, 2⟩) (meth := k26m2) (c := k26c2) (by decide +kernel) rfl rfl rfl (by decide +kernel)
theorem w_c51 : (Jvm.Cond.code ({ cls := "java/util/ImmutableCollections$List12", name := "get", desc := "(I)Ljava/lang/Object;" } : Jvm.MethodName) jdk_44_method_5_code (2 : Nat) (Option.some (Jvm.ClassFile.FieldType.object "java/lang/Object"))).before args0 about1 = true := code_word (m := ⟨26, 3⟩) (meth := k26m3) (c := k26c3) (by decide +kernel) rfl rfl rfl (by decide +kernel)
def codes1 : List Jvm.Cond := [Jvm.Cond.code x code maxLocals ret, Jvm.Cond.code ({ cls := "com/example/sherman/sherman/service/VerificationRefusedAtPinLaw", name := "outcome", desc := "(I)Lcom/example/sherman/sherman/service/Verification$Outcome;" } : Jvm.MethodName) method_4_code (3 : Nat) (Option.some (Jvm.ClassFile.FieldType.object "com/example/sherman/sherman/service/Verification$Outcome")), Jvm.Cond.code ({ cls := "com/example/sherman/sherman/service/VerificationRefusedAtPinLaw", name := "status", desc := "(I)Lcom/example/sherman/sherman/service/Verification$Status;" } : Jvm.MethodName) method_3_code (2 : Nat) (Option.some (Jvm.ClassFile.FieldType.object "com/example/sherman/sherman/service/Verification$Status")), Jvm.Cond.code ({ cls := "com/example/sherman/sherman/service/VerificationRefusedAtPinLaw", name := "step", desc := "(I)Lcom/example/sherman/sherman/service/Step;" } : Jvm.MethodName) method_2_code (2 : Nat) (Option.some (Jvm.ClassFile.FieldType.object "com/example/sherman/sherman/service/Step")), Jvm.Cond.code ({ cls := "com/example/sherman/sherman/service/Verification$Outcome", name := "<init>", desc := "(Lcom/example/sherman/sherman/service/Step;Lcom/example/sherman/sherman/service/Verification$Status;Ljava/lang/String;)V" } : Jvm.MethodName) prog_14_method_1_code (4 : Nat) (Option.none : Option Jvm.ClassFile.FieldType), Jvm.Cond.code ({ cls := "java/lang/Record", name := "<init>", desc := "()V" } : Jvm.MethodName) jdk_30_method_1_code (1 : Nat) (Option.none : Option Jvm.ClassFile.FieldType), Jvm.Cond.code ({ cls := "java/lang/Object", name := "<init>", desc := "()V" } : Jvm.MethodName) object_method_1_code (1 : Nat) (Option.none : Option Jvm.ClassFile.FieldType), Jvm.Cond.code ({ cls := "java/util/ArrayList", name := "<init>", desc := "()V" } : Jvm.MethodName) jdk_38_method_2_code (1 : Nat) (Option.none : Option Jvm.ClassFile.FieldType), Jvm.Cond.code ({ cls := "java/util/AbstractList", name := "<init>", desc := "()V" } : Jvm.MethodName) jdk_39_method_1_code (1 : Nat) (Option.none : Option Jvm.ClassFile.FieldType), Jvm.Cond.code ({ cls := "java/util/AbstractCollection", name := "<init>", desc := "()V" } : Jvm.MethodName) jdk_22_method_1_code (1 : Nat) (Option.none : Option Jvm.ClassFile.FieldType), Jvm.Cond.code ({ cls := "com/example/sherman/sherman/service/Verification", name := "<init>", desc := "(Ljava/util/List;Ljava/util/List;)V" } : Jvm.MethodName) prog_13_method_1_code (3 : Nat) (Option.none : Option Jvm.ClassFile.FieldType), Jvm.Cond.code ({ cls := "java/util/List", name := "copyOf", desc := "(Ljava/util/Collection;)Ljava/util/List;" } : Jvm.MethodName) jdk_40_method_48_code (1 : Nat) (Option.some (Jvm.ClassFile.FieldType.object "java/util/List")), Jvm.Cond.code ({ cls := "java/util/ImmutableCollections", name := "listCopy", desc := "(Ljava/util/Collection;)Ljava/util/List;" } : Jvm.MethodName) jdk_56_method_3_code (2 : Nat) (Option.some (Jvm.ClassFile.FieldType.object "java/util/List")), Jvm.Cond.code ({ cls := "java/util/ArrayList", name := "isEmpty", desc := "()Z" } : Jvm.MethodName) jdk_38_method_9_code (1 : Nat) (Option.some Jvm.ClassFile.FieldType.boolean), Jvm.Cond.code ({ cls := "java/util/List", name := "of", desc := "()Ljava/util/List;" } : Jvm.MethodName) jdk_40_method_36_code (0 : Nat) (Option.some (Jvm.ClassFile.FieldType.object "java/util/List")), Jvm.Cond.code ({ cls := "com/example/sherman/sherman/service/Verification", name := "refusedAt", desc := "()Ljava/util/Optional;" } : Jvm.MethodName) prog_13_method_2_code (3 : Nat) (Option.some (Jvm.ClassFile.FieldType.object "java/util/Optional")), Jvm.Cond.code ({ cls := "java/util/ImmutableCollections$AbstractImmutableList", name := "iterator", desc := "()Ljava/util/Iterator;" } : Jvm.MethodName) jdk_46_method_10_code (1 : Nat) (Option.some (Jvm.ClassFile.FieldType.object "java/util/Iterator")), Jvm.Cond.code ({ cls := "java/util/ImmutableCollections$ListN", name := "size", desc := "()I" } : Jvm.MethodName) jdk_45_method_3_code (1 : Nat) (Option.some Jvm.ClassFile.FieldType.int), Jvm.Cond.code ({ cls := "java/util/ImmutableCollections$ListItr", name := "<init>", desc := "(Ljava/util/List;I)V" } : Jvm.MethodName) jdk_53_method_1_code (3 : Nat) (Option.none : Option Jvm.ClassFile.FieldType), Jvm.Cond.code ({ cls := "java/util/ImmutableCollections$ListItr", name := "hasNext", desc := "()Z" } : Jvm.MethodName) jdk_53_method_3_code (1 : Nat) (Option.some Jvm.ClassFile.FieldType.boolean), Jvm.Cond.code ({ cls := "java/util/Optional", name := "empty", desc := "()Ljava/util/Optional;" } : Jvm.MethodName) jdk_32_method_1_code (1 : Nat) (Option.some (Jvm.ClassFile.FieldType.object "java/util/Optional")), Jvm.Cond.code ({ cls := "java/util/Optional", name := "isEmpty", desc := "()Z" } : Jvm.MethodName) jdk_32_method_7_code (1 : Nat) (Option.some Jvm.ClassFile.FieldType.boolean), Jvm.Cond.code ({ cls := "java/util/ArrayList", name := "add", desc := "(Ljava/lang/Object;)Z" } : Jvm.MethodName) jdk_38_method_25_code (2 : Nat) (Option.some Jvm.ClassFile.FieldType.boolean), Jvm.Cond.code ({ cls := "java/util/ArrayList", name := "add", desc := "(Ljava/lang/Object;[Ljava/lang/Object;I)V" } : Jvm.MethodName) jdk_38_method_24_code (4 : Nat) (Option.none : Option Jvm.ClassFile.FieldType), Jvm.Cond.code ({ cls := "java/util/ArrayList", name := "grow", desc := "()[Ljava/lang/Object;" } : Jvm.MethodName) jdk_38_method_7_code (1 : Nat) (Option.some (Jvm.ClassFile.FieldType.array (Jvm.ClassFile.FieldType.object "java/lang/Object"))), Jvm.Cond.code ({ cls := "java/util/ArrayList", name := "grow", desc := "(I)[Ljava/lang/Object;" } : Jvm.MethodName) jdk_38_method_6_code (4 : Nat) (Option.some (Jvm.ClassFile.FieldType.array (Jvm.ClassFile.FieldType.object "java/lang/Object"))), Jvm.Cond.code ({ cls := "java/lang/Math", name := "max", desc := "(II)I" } : Jvm.MethodName) jdk_29_method_65_code (2 : Nat) (Option.some Jvm.ClassFile.FieldType.int), Jvm.Cond.code ({ cls := "java/lang/String", name := "valueOf", desc := "(C)Ljava/lang/String;" } : Jvm.MethodName) jdk_42_method_139_code (1 : Nat) (Option.some (Jvm.ClassFile.FieldType.object "java/lang/String")), Jvm.Cond.code ({ cls := "java/lang/StringLatin1", name := "canEncode", desc := "(C)Z" } : Jvm.MethodName) jdk_43_method_3_code (1 : Nat) (Option.some Jvm.ClassFile.FieldType.boolean), Jvm.Cond.code ({ cls := "java/lang/StringLatin1", name := "toBytes", desc := "(C)[B" } : Jvm.MethodName) jdk_43_method_46_code (1 : Nat) (Option.some (Jvm.ClassFile.FieldType.array Jvm.ClassFile.FieldType.byte)), Jvm.Cond.code ({ cls := "java/lang/String", name := "<init>", desc := "([BB)V" } : Jvm.MethodName) jdk_42_method_151_code (3 : Nat) (Option.none : Option Jvm.ClassFile.FieldType), Jvm.Cond.code ({ cls := "java/util/ArrayList", name := "toArray", desc := "()[Ljava/lang/Object;" } : Jvm.MethodName) jdk_38_method_16_code (1 : Nat) (Option.some (Jvm.ClassFile.FieldType.array (Jvm.ClassFile.FieldType.object "java/lang/Object"))), Jvm.Cond.code ({ cls := "java/util/Arrays", name := "copyOf", desc := "([Ljava/lang/Object;I)[Ljava/lang/Object;" } : Jvm.MethodName) jdk_65_method_119_code (2 : Nat) (Option.some (Jvm.ClassFile.FieldType.array (Jvm.ClassFile.FieldType.object "java/lang/Object"))), Jvm.Cond.code ({ cls := "java/util/Arrays", name := "copyOf", desc := "([Ljava/lang/Object;ILjava/lang/Class;)[Ljava/lang/Object;" } : Jvm.MethodName) jdk_65_method_120_code (4 : Nat) (Option.some (Jvm.ClassFile.FieldType.array (Jvm.ClassFile.FieldType.object "java/lang/Object"))), Jvm.Cond.code ({ cls := "java/lang/Math", name := "min", desc := "(II)I" } : Jvm.MethodName) jdk_29_method_69_code (2 : Nat) (Option.some Jvm.ClassFile.FieldType.int), Jvm.Cond.code ({ cls := "java/util/List", name := "of", desc := "([Ljava/lang/Object;)Ljava/util/List;" } : Jvm.MethodName) jdk_40_method_47_code (2 : Nat) (Option.some (Jvm.ClassFile.FieldType.object "java/util/List")), Jvm.Cond.code ({ cls := "java/util/ImmutableCollections", name := "listFromArray", desc := "([Ljava/lang/Object;)Ljava/util/List;" } : Jvm.MethodName) jdk_56_method_4_code (3 : Nat) (Option.some (Jvm.ClassFile.FieldType.object "java/util/List")), Jvm.Cond.code ({ cls := "java/util/Objects", name := "requireNonNull", desc := "(Ljava/lang/Object;)Ljava/lang/Object;" } : Jvm.MethodName) jdk_31_method_10_code (1 : Nat) (Option.some (Jvm.ClassFile.FieldType.object "java/lang/Object")), Jvm.Cond.code ({ cls := "java/util/ImmutableCollections$ListN", name := "<init>", desc := "([Ljava/lang/Object;Z)V" } : Jvm.MethodName) jdk_45_method_1_code (3 : Nat) (Option.none : Option Jvm.ClassFile.FieldType), Jvm.Cond.code ({ cls := "java/util/ImmutableCollections$AbstractImmutableList", name := "<init>", desc := "()V" } : Jvm.MethodName) jdk_46_method_1_code (1 : Nat) (Option.none : Option Jvm.ClassFile.FieldType), Jvm.Cond.code ({ cls := "java/util/ImmutableCollections$AbstractImmutableCollection", name := "<init>", desc := "()V" } : Jvm.MethodName) jdk_47_method_1_code (1 : Nat) (Option.none : Option Jvm.ClassFile.FieldType), Jvm.Cond.code ({ cls := "java/util/ImmutableCollections$List12", name := "<init>", desc := "(Ljava/lang/Object;)V" } : Jvm.MethodName) jdk_44_method_1_code (2 : Nat) (Option.none : Option Jvm.ClassFile.FieldType), Jvm.Cond.code ({ cls := "java/util/ImmutableCollections$ListN", name := "get", desc := "(I)Ljava/lang/Object;" } : Jvm.MethodName) jdk_45_method_4_code (2 : Nat) (Option.some (Jvm.ClassFile.FieldType.object "java/lang/Object")), Jvm.Cond.code ({ cls := "com/example/sherman/sherman/service/Verification$Outcome", name := "status", desc := "()Lcom/example/sherman/sherman/service/Verification$Status;" } : Jvm.MethodName) prog_14_method_6_code (1 : Nat) (Option.some (Jvm.ClassFile.FieldType.object "com/example/sherman/sherman/service/Verification$Status")), Jvm.Cond.code ({ cls := "com/example/sherman/sherman/service/Verification$Outcome", name := "step", desc := "()Lcom/example/sherman/sherman/service/Step;" } : Jvm.MethodName) prog_14_method_5_code (1 : Nat) (Option.some (Jvm.ClassFile.FieldType.object "com/example/sherman/sherman/service/Step")), Jvm.Cond.code ({ cls := "java/util/Optional", name := "of", desc := "(Ljava/lang/Object;)Ljava/util/Optional;" } : Jvm.MethodName) jdk_32_method_3_code (1 : Nat) (Option.some (Jvm.ClassFile.FieldType.object "java/util/Optional")), Jvm.Cond.code ({ cls := "java/util/Optional", name := "<init>", desc := "(Ljava/lang/Object;)V" } : Jvm.MethodName) jdk_32_method_2_code (2 : Nat) (Option.none : Option Jvm.ClassFile.FieldType), Jvm.Cond.code ({ cls := "java/util/Optional", name := "isPresent", desc := "()Z" } : Jvm.MethodName) jdk_32_method_6_code (1 : Nat) (Option.some Jvm.ClassFile.FieldType.boolean), Jvm.Cond.code ({ cls := "java/util/Optional", name := "get", desc := "()Ljava/lang/Object;" } : Jvm.MethodName) jdk_32_method_5_code (1 : Nat) (Option.some (Jvm.ClassFile.FieldType.object "java/lang/Object")), Jvm.Cond.code ({ cls := "java/util/ImmutableCollections$List12", name := "<init>", desc := "(Ljava/lang/Object;Ljava/lang/Object;)V" } : Jvm.MethodName) jdk_44_method_2_code (3 : Nat) (Option.none : Option Jvm.ClassFile.FieldType), Jvm.Cond.code ({ cls := "java/util/ImmutableCollections$List12", name := "size", desc := "()I" } : Jvm.MethodName) jdk_44_method_3_code (1 : Nat) (Option.some Jvm.ClassFile.FieldType.int), Jvm.Cond.code ({ cls := "java/util/ImmutableCollections$List12", name := "get", desc := "(I)Ljava/lang/Object;" } : Jvm.MethodName) jdk_44_method_5_code (2 : Nat) (Option.some (Jvm.ClassFile.FieldType.object "java/lang/Object"))]
theorem codes_eq : words1.filter isCode = codes1 := rfl
theorem w_codes : ∀ c ∈ words1.filter isCode, c.before args0 about1 = true := by
  rw [codes_eq]
  intro c hc
  simp only [codes1, List.mem_cons, List.not_mem_nil, or_false] at hc
  rcases hc with rfl | rfl | rfl | rfl | rfl | rfl | rfl | rfl | rfl | rfl | rfl | rfl | rfl | rfl | rfl | rfl | rfl | rfl | rfl | rfl | rfl | rfl | rfl | rfl | rfl | rfl | rfl | rfl | rfl | rfl | rfl | rfl | rfl | rfl | rfl | rfl | rfl | rfl | rfl | rfl | rfl | rfl | rfl | rfl | rfl | rfl | rfl | rfl | rfl | rfl | rfl | rfl
  · exact w_c0
  · exact w_c1
  · exact w_c2
  · exact w_c3
  · exact w_c4
  · exact w_c5
  · exact w_c6
  · exact w_c7
  · exact w_c8
  · exact w_c9
  · exact w_c10
  · exact w_c11
  · exact w_c12
  · exact w_c13
  · exact w_c14
  · exact w_c15
  · exact w_c16
  · exact w_c17
  · exact w_c18
  · exact w_c19
  · exact w_c20
  · exact w_c21
  · exact w_c22
  · exact w_c23
  · exact w_c24
  · exact w_c25
  · exact w_c26
  · exact w_c27
  · exact w_c28
  · exact w_c29
  · exact w_c30
  · exact w_c31
  · exact w_c32
  · exact w_c33
  · exact w_c34
  · exact w_c35
  · exact w_c36
  · exact w_c37
  · exact w_c38
  · exact w_c39
  · exact w_c40
  · exact w_c41
  · exact w_c42
  · exact w_c43
  · exact w_c44
  · exact w_c45
  · exact w_c46
  · exact w_c47
  · exact w_c48
  · exact w_c49
  · exact w_c50
  · exact w_c51
theorem w_t1 : (words1.take 24).all (fun c => isCode c || c.before args0 about1) = true := by decide +kernel
theorem w_t2 : ((words1.drop 24).take 24).all (fun c => isCode c || c.before args0 about1) = true := by decide +kernel
theorem w_t3 : (((words1.drop 24).drop 24).take 24).all (fun c => isCode c || c.before args0 about1) = true := by decide +kernel
theorem w_t4 : ((((words1.drop 24).drop 24).drop 24).take 24).all (fun c => isCode c || c.before args0 about1) = true := by decide +kernel
theorem w_t5 : (((((words1.drop 24).drop 24).drop 24).drop 24).take 24).all (fun c => isCode c || c.before args0 about1) = true := by decide +kernel
theorem w_t6 : ((((((words1.drop 24).drop 24).drop 24).drop 24).drop 24).take 24).all (fun c => isCode c || c.before args0 about1) = true := by decide +kernel
theorem w_t7 : (((((((words1.drop 24).drop 24).drop 24).drop 24).drop 24).drop 24).take 24).all (fun c => isCode c || c.before args0 about1) = true := by decide +kernel
theorem w_t8 : ((((((((words1.drop 24).drop 24).drop 24).drop 24).drop 24).drop 24).drop 24).take 24).all (fun c => isCode c || c.before args0 about1) = true := by decide +kernel
theorem w_t9 : (((((((((words1.drop 24).drop 24).drop 24).drop 24).drop 24).drop 24).drop 24).drop 24).take 24).all (fun c => isCode c || c.before args0 about1) = true := by decide +kernel
theorem w_t10 : ((((((((((words1.drop 24).drop 24).drop 24).drop 24).drop 24).drop 24).drop 24).drop 24).drop 24).take 24).all (fun c => isCode c || c.before args0 about1) = true := by decide +kernel
theorem w_t11 : (((((((((((words1.drop 24).drop 24).drop 24).drop 24).drop 24).drop 24).drop 24).drop 24).drop 24).drop 24).take 24).all (fun c => isCode c || c.before args0 about1) = true := by decide +kernel
theorem w_t12 : ((((((((((((words1.drop 24).drop 24).drop 24).drop 24).drop 24).drop 24).drop 24).drop 24).drop 24).drop 24).drop 24).take 24).all (fun c => isCode c || c.before args0 about1) = true := by decide +kernel
theorem w_t13 : (((((((((((((words1.drop 24).drop 24).drop 24).drop 24).drop 24).drop 24).drop 24).drop 24).drop 24).drop 24).drop 24).drop 24).take 24).all (fun c => isCode c || c.before args0 about1) = true := by decide +kernel
theorem w_t14 : ((((((((((((((words1.drop 24).drop 24).drop 24).drop 24).drop 24).drop 24).drop 24).drop 24).drop 24).drop 24).drop 24).drop 24).drop 24).take 24).all (fun c => isCode c || c.before args0 about1) = true := by decide +kernel
theorem w_t15 : (((((((((((((((words1.drop 24).drop 24).drop 24).drop 24).drop 24).drop 24).drop 24).drop 24).drop 24).drop 24).drop 24).drop 24).drop 24).drop 24).take 24).all (fun c => isCode c || c.before args0 about1) = true := by decide +kernel
theorem w_t16 : ((((((((((((((((words1.drop 24).drop 24).drop 24).drop 24).drop 24).drop 24).drop 24).drop 24).drop 24).drop 24).drop 24).drop 24).drop 24).drop 24).drop 24).take 24).all (fun c => isCode c || c.before args0 about1) = true := by decide +kernel
theorem w_t17 : ((((((((((((((((words1.drop 24).drop 24).drop 24).drop 24).drop 24).drop 24).drop 24).drop 24).drop 24).drop 24).drop 24).drop 24).drop 24).drop 24).drop 24).drop 24).all (fun c => isCode c || c.before args0 about1) = true := by decide +kernel
theorem w_tables : (allAtoms (Jvm.Cond.code x code maxLocals ret :: tables_1)).before args0 about1 = true := by
  rw [allAtoms_all]
  show words1.all (fun c => c.before args0 about1) = true
  refine all_split ?_ w_codes
  rw [← List.take_append_drop 24 words1, List.all_append, w_t1, ← List.take_append_drop 24 (words1.drop 24), List.all_append, w_t2, ← List.take_append_drop 24 ((words1.drop 24).drop 24), List.all_append, w_t3, ← List.take_append_drop 24 (((words1.drop 24).drop 24).drop 24), List.all_append, w_t4, ← List.take_append_drop 24 ((((words1.drop 24).drop 24).drop 24).drop 24), List.all_append, w_t5, ← List.take_append_drop 24 (((((words1.drop 24).drop 24).drop 24).drop 24).drop 24), List.all_append, w_t6, ← List.take_append_drop 24 ((((((words1.drop 24).drop 24).drop 24).drop 24).drop 24).drop 24), List.all_append, w_t7, ← List.take_append_drop 24 (((((((words1.drop 24).drop 24).drop 24).drop 24).drop 24).drop 24).drop 24), List.all_append, w_t8, ← List.take_append_drop 24 ((((((((words1.drop 24).drop 24).drop 24).drop 24).drop 24).drop 24).drop 24).drop 24), List.all_append, w_t9, ← List.take_append_drop 24 (((((((((words1.drop 24).drop 24).drop 24).drop 24).drop 24).drop 24).drop 24).drop 24).drop 24), List.all_append, w_t10, ← List.take_append_drop 24 ((((((((((words1.drop 24).drop 24).drop 24).drop 24).drop 24).drop 24).drop 24).drop 24).drop 24).drop 24), List.all_append, w_t11, ← List.take_append_drop 24 (((((((((((words1.drop 24).drop 24).drop 24).drop 24).drop 24).drop 24).drop 24).drop 24).drop 24).drop 24).drop 24), List.all_append, w_t12, ← List.take_append_drop 24 ((((((((((((words1.drop 24).drop 24).drop 24).drop 24).drop 24).drop 24).drop 24).drop 24).drop 24).drop 24).drop 24).drop 24), List.all_append, w_t13, ← List.take_append_drop 24 (((((((((((((words1.drop 24).drop 24).drop 24).drop 24).drop 24).drop 24).drop 24).drop 24).drop 24).drop 24).drop 24).drop 24).drop 24), List.all_append, w_t14, ← List.take_append_drop 24 ((((((((((((((words1.drop 24).drop 24).drop 24).drop 24).drop 24).drop 24).drop 24).drop 24).drop 24).drop 24).drop 24).drop 24).drop 24).drop 24), List.all_append, w_t15, ← List.take_append_drop 24 (((((((((((((((words1.drop 24).drop 24).drop 24).drop 24).drop 24).drop 24).drop 24).drop 24).drop 24).drop 24).drop 24).drop 24).drop 24).drop 24).drop 24), List.all_append, w_t16, w_t17]
  rfl
theorem w_rest : rest_1_c.before args0 about1 = true := by decide +kernel
theorem w_case : (Jvm.Cond.and given_1 narrow_1).before args0 about1 = true := by decide +kernel
theorem w_applies : (headSpec (Jvm.Cond.code x code maxLocals ret :: tables_1) room_1).applies x e0.platform about1 = true :=
  (Spec.applies_iff w_frames).mpr ⟨w_running, w_runnable, w_alone, w_named, w_hears, w_ripe, w_room, w_tables⟩
theorem atStart : AtStart classFile x code maxLocals ret World_1 tables_1 room_1 Calls_1 rest_1 Pre_1 launch0 p0 e0 about1 theMethod args0 below0 :=
  ⟨lists_1, trivial, launch0.admits_env _ _ _, launch0.least_env, fairChoices_fair.cas, fairChoices_fair.clock, w_frames, w_args, w_heap, w_applies, ⟨⟨44, k44, 7, by decide +kernel, rfl, rfl, _, rfl, rfl⟩, trivial⟩, w_rest, w_case⟩
end start1
theorem witness_1 : WitnessClaimed_1 := ⟨start1.p0, start1.e0, start1.about1, start1.theMethod, start1.args0, start1.below0, start1.atStart⟩
end Jvm.Pilot.@@N@@
